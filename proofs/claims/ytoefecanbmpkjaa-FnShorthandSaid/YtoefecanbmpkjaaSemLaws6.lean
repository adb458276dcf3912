/- The walks of the laws FnShorthand, FnShorthandBare and FnZeros: each returns true. Condition: each text takes at most 2 to the power of 47 bytes. -/
import Derived.Test.YtoefecanbmpkjaaSemLaws5
import Derived.Test.YtoefecanbmpkjaaSemLaws3
import Derived.Deep.RegionHeld3
namespace Go.Proofs.Ytoefecanbmpkjaa
open Go.RowKit
attribute [local go_sem] app_str

theorem short_one {a : List UInt8} (ha : Sem.Num a) : Sem.parse (118 :: a) = some ⟨a, [48], [48], [46, 48, 46, 48], [], []⟩ :=
  Sem.parse_iff.2 ⟨⟨ha, Sem.num_zero, Sem.num_zero, .inr (.inr ⟨rfl, rfl, rfl, rfl, rfl⟩)⟩, by simp [Sem.textOf]⟩
theorem short_two {a b : List UInt8} (ha : Sem.Num a) (hb : Sem.Num b) : Sem.parse (118 :: (a ++ 46 :: b)) = some ⟨a, b, [48], [46, 48], [], []⟩ :=
  Sem.parse_iff.2 ⟨⟨ha, hb, Sem.num_zero, .inr (.inl ⟨rfl, rfl, rfl, rfl⟩)⟩, by simp [Sem.textOf]⟩
theorem num_three {a b c : List UInt8} (ha : Sem.Num a) (hb : Sem.Num b) (hc : Sem.Num c) : Sem.parse (118 :: (a ++ 46 :: (b ++ 46 :: c))) = some ⟨a, b, c, [], [], []⟩ :=
  Sem.parse_iff.2 ⟨⟨ha, hb, hc, .inl ⟨rfl, .inl rfl, .inl rfl⟩⟩, by simp [Sem.textOf]⟩

set_option maxHeartbeats 4000000 in
set_option maxRecDepth 100000 in
theorem walk_FnShorthand (v0 : Value) (xs : List (List UInt8)) (v1 : Value) (ys : List (List UInt8)) (w : World)
    (h0 : StrsAt w v0 xs ∧ ∀ x ∈ xs, x.length ≤ 140737488351232) (h1 : StrsAt w v1 ys ∧ ∀ x ∈ ys, x.length ≤ 140737488351232) :
    Calls Try.prog 12 #[v0, v1] w fun e w' => e = .returned (.bool true) ∧ Below w.heap.size w w' := by
  obtain ⟨h0, hl0⟩ := h0
  obtain ⟨h1, hl1⟩ := h1
  have HN0 := Lib.hid (numbersGood_any v0 xs w h0 (fun x hx => by have := hl0 x hx; omega))
  have HN1 := Lib.hid (numbersGood_any v1 ys w h1 (fun x hx => by have := hl1 x hx; omega))
  cases g0 : Sem.numsGood xs with
  | false =>
    clear hl0 hl1 h0 h1
    go_enter Try.func12, Try.ntmps12
    go_wp2_with (first | (go_at_call 15; refine HN0.out.mono ?_; rintro e w' ⟨rfl, rfl⟩) | (first | (go_at_call 20; refine (impl_CompareVersions _ _ _ (by first | omega | (simp; done) | (simp; omega)) (by first | omega | (simp; done) | (simp; omega))).mono ?_; rintro e w' ⟨rfl, hb⟩) | (go_at_call 17; refine (impl_VersionOk _ _ (by first | omega | (simp; done) | (simp; omega))).mono ?_; rintro e w' ⟨rfl, hb⟩) | (go_at_call 25; refine (impl_CanonicalVersion _ _ (by first | omega | (simp; done) | (simp; omega))).mono ?_; rintro e w' ⟨rfl, hb⟩) | (go_at_call 28; refine (impl_MajorOf _ _ (by first | omega | (simp; done) | (simp; omega))).mono ?_; rintro e w' ⟨rfl, hb⟩) | (go_at_call 29; refine (impl_MajorMinorOf _ _ (by first | omega | (simp; done) | (simp; omega))).mono ?_; rintro e w' ⟨rfl, hb⟩) | (go_at_call 21; refine (impl_PrereleaseOf _ _ (by first | omega | (simp; done) | (simp; omega))).mono ?_; rintro e w' ⟨rfl, hb⟩) | (go_at_call 22; refine (impl_BuildOf _ _ (by first | omega | (simp; done) | (simp; omega))).mono ?_; rintro e w' ⟨rfl, hb⟩) | (go_at_call 19; refine (impl_MaxVersion _ _ _ (by first | omega | (simp; done) | (simp; omega)) (by first | omega | (simp; done) | (simp; omega))).mono ?_; rintro e w' ⟨rfl, hb⟩) | (go_at_call 16; refine (veWorks_any _).mono ?_; rintro e w' ⟨rfl, hb⟩)))
    go_ret
    exact ⟨rfl, (by repeat (first | (with_reducible assumption) | (with_reducible exact Below.refl _ _) | (with_reducible refine bl_next' ?_ (by with_reducible assumption))))⟩
  | true =>
    cases g1 : Sem.numsGood ys with
    | false =>
      clear hl0 hl1 h0 h1
      go_enter Try.func12, Try.ntmps12
      go_wp2_with fail
      refine HN0.out.mono ?_
      rintro e w' ⟨rfl, rfl⟩
      go_wp2_with fail
      refine HN1.out.mono ?_
      rintro e w' ⟨rfl, rfl⟩
      go_wp2_with (first | (go_at_call 20; refine (impl_CompareVersions _ _ _ (by first | omega | (simp; done) | (simp; omega)) (by first | omega | (simp; done) | (simp; omega))).mono ?_; rintro e w' ⟨rfl, hb⟩) | (go_at_call 17; refine (impl_VersionOk _ _ (by first | omega | (simp; done) | (simp; omega))).mono ?_; rintro e w' ⟨rfl, hb⟩) | (go_at_call 25; refine (impl_CanonicalVersion _ _ (by first | omega | (simp; done) | (simp; omega))).mono ?_; rintro e w' ⟨rfl, hb⟩) | (go_at_call 28; refine (impl_MajorOf _ _ (by first | omega | (simp; done) | (simp; omega))).mono ?_; rintro e w' ⟨rfl, hb⟩) | (go_at_call 29; refine (impl_MajorMinorOf _ _ (by first | omega | (simp; done) | (simp; omega))).mono ?_; rintro e w' ⟨rfl, hb⟩) | (go_at_call 21; refine (impl_PrereleaseOf _ _ (by first | omega | (simp; done) | (simp; omega))).mono ?_; rintro e w' ⟨rfl, hb⟩) | (go_at_call 22; refine (impl_BuildOf _ _ (by first | omega | (simp; done) | (simp; omega))).mono ?_; rintro e w' ⟨rfl, hb⟩) | (go_at_call 19; refine (impl_MaxVersion _ _ _ (by first | omega | (simp; done) | (simp; omega)) (by first | omega | (simp; done) | (simp; omega))).mono ?_; rintro e w' ⟨rfl, hb⟩) | (go_at_call 16; refine (veWorks_any _).mono ?_; rintro e w' ⟨rfl, hb⟩))
      go_ret
      exact ⟨rfl, (by repeat (first | (with_reducible assumption) | (with_reducible exact Below.refl _ _) | (with_reducible refine bl_next' ?_ (by with_reducible assumption))))⟩
    | true =>
      obtain ⟨x0, x1, x2, rfl, n0, n1, n2⟩ := good3 g0
      obtain ⟨y0, y1, y2, rfl, m0, m1, m2⟩ := good3 g1
      have lx0 := hl0 x0 (by simp)
      have ly1 := hl1 y1 (by simp)
      obtain ⟨A, c, rfl, hc, hm, h0⟩ := h0
      obtain ⟨A', c', rfl, hc', hm', h1⟩ := h1
      rcases h0 with h | ⟨b, off, rfl, hlt, hcell⟩
      · simp at h
      rcases h1 with h | ⟨b', off', rfl, hlt', hcell'⟩
      · simp at h
      have cx0 : w.cell? ⟨b, off, none⟩ = some (str x0) := by simpa using hcell 0 x0 rfl
      have cy1 : w.cell? ⟨b', off' + 1, none⟩ = some (str y1) := hcell' 1 y1 rfl
      have p1 := short_one n0
      have p2 := short_two n0 m1
      have p3 := num_three n0 Sem.num_zero Sem.num_zero
      have p4 := num_three n0 m1 Sem.num_zero
      have k1 : Sem.canonical (118 :: x0) = 118 :: (x0 ++ [46, 48, 46, 48]) := by rw [Sem.canon_text p1]; simp
      have k2 : Sem.canonical (118 :: (x0 ++ 46 :: y1)) = 118 :: (x0 ++ 46 :: (y1 ++ [46, 48])) := by rw [Sem.canon_text p2]; simp
      have k3 : Sem.compare (118 :: x0) (118 :: (x0 ++ [46, 48, 46, 48])) = 0 := by
        rw [Sem.compare_opt, p1, show (118 :: (x0 ++ [46, 48, 46, 48]) : List UInt8) = 118 :: (x0 ++ 46 :: ([48] ++ 46 :: [48])) from rfl, p3]
        exact Sem.lin_ver.self (Sem.Ver.mk x0 [48] [48] [] [] [])
      have k4 : Sem.compare (118 :: (x0 ++ 46 :: y1)) (118 :: (x0 ++ 46 :: (y1 ++ [46, 48]))) = 0 := by
        rw [Sem.compare_opt, p2, show (118 :: (x0 ++ 46 :: (y1 ++ [46, 48])) : List UInt8) = 118 :: (x0 ++ 46 :: (y1 ++ 46 :: [48])) from rfl, p4]
        exact Sem.lin_ver.self (Sem.Ver.mk x0 y1 [48] [] [] [])
      have k5 : Sem.majorMinor (118 :: x0) = 118 :: (x0 ++ [46, 48]) := by rw [Sem.majorMinor_text p1]
      have k6 : Sem.majorMinor (118 :: (x0 ++ 46 :: y1)) = 118 :: (x0 ++ 46 :: y1) := by rw [Sem.majorMinor_text p2]
      have k7 : Sem.majorOf (118 :: (x0 ++ 46 :: y1)) = 118 :: x0 := by rw [Sem.major_text p2]
      clear p1 p2 p3 p4 n0 n1 n2 m0 m1 m2 hl0 hl1 hcell hcell'
      go_enter Try.func12, Try.ntmps12
      go_wp2_with fail
      refine HN0.out.mono ?_
      rintro e w' ⟨rfl, rfl⟩
      go_wp2_with fail
      refine HN1.out.mono ?_
      rintro e w' ⟨rfl, rfl⟩
      go_wp2_with fail
      go_quiet (fail)
      go_wp2_with (first | (go_at_call 20; refine (impl_CompareVersions _ _ _ (by first | omega | (simp; done) | (simp; omega)) (by first | omega | (simp; done) | (simp; omega))).mono ?_; rintro e w' ⟨rfl, hb⟩) | (go_at_call 17; refine (impl_VersionOk _ _ (by first | omega | (simp; done) | (simp; omega))).mono ?_; rintro e w' ⟨rfl, hb⟩) | (go_at_call 25; refine (impl_CanonicalVersion _ _ (by first | omega | (simp; done) | (simp; omega))).mono ?_; rintro e w' ⟨rfl, hb⟩) | (go_at_call 28; refine (impl_MajorOf _ _ (by first | omega | (simp; done) | (simp; omega))).mono ?_; rintro e w' ⟨rfl, hb⟩) | (go_at_call 29; refine (impl_MajorMinorOf _ _ (by first | omega | (simp; done) | (simp; omega))).mono ?_; rintro e w' ⟨rfl, hb⟩) | (go_at_call 21; refine (impl_PrereleaseOf _ _ (by first | omega | (simp; done) | (simp; omega))).mono ?_; rintro e w' ⟨rfl, hb⟩) | (go_at_call 22; refine (impl_BuildOf _ _ (by first | omega | (simp; done) | (simp; omega))).mono ?_; rintro e w' ⟨rfl, hb⟩) | (go_at_call 19; refine (impl_MaxVersion _ _ _ (by first | omega | (simp; done) | (simp; omega)) (by first | omega | (simp; done) | (simp; omega))).mono ?_; rintro e w' ⟨rfl, hb⟩) | (go_at_call 16; refine (veWorks_any _).mono ?_; rintro e w' ⟨rfl, hb⟩))
      go_ret
      exact ⟨rfl, (by repeat (first | (with_reducible assumption) | (with_reducible exact Below.refl _ _) | (with_reducible exact bl_drewN (Below.refl _ _) _) | (with_reducible refine bl_next' ?_ (by with_reducible assumption))))⟩

end Go.Proofs.Ytoefecanbmpkjaa
