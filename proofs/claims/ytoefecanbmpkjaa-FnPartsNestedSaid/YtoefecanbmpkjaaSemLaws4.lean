/- The walks of the laws FnPartsNested and FnEmptyParts: each returns true. Condition: each text takes at most 2 to the power of 47 bytes. -/
import Derived.Test.YtoefecanbmpkjaaSemLaws3
namespace Go.Proofs.Ytoefecanbmpkjaa
open Go.RowKit
attribute [local go_sem] app_str

theorem take_beq {s t r : List UInt8} (h : s = t ++ r) : (((ByteArray.mk s.toArray).extract 0 t.length).toList == t) = true := by
  rw [ByteArray.extract_mk, ByteArray.toList_mk, h]; simp
theorem drop_beq {s t r : List UInt8} (h : s = r ++ t) : (((ByteArray.mk s.toArray).extract (s.length - t.length) s.length).toList == t) = true := by
  rw [ByteArray.extract_mk, ByteArray.toList_mk, h]; simp
set_option maxHeartbeats 400000 in
theorem begins_yes (s t r : List UInt8) (w : World) (h : s = t ++ r) (_ : s.length ≤ 1125899906842624) :
    Calls Try.prog 30 #[str s, str t] w fun e w' => e = .returned (.bool true) ∧ w = w' := by
  have hl : t.length ≤ s.length := by rw [h, List.length_append]; omega
  have hb := take_beq h
  clear h
  go_enter Try.func30, Try.ntmps30
  go_wp2
  go_ret
  exact ⟨rfl, rfl⟩
set_option maxHeartbeats 400000 in
theorem ends_yes (s t r : List UInt8) (w : World) (h : s = r ++ t) (_ : s.length ≤ 1125899906842624) :
    Calls Try.prog 31 #[str s, str t] w fun e w' => e = .returned (.bool true) ∧ w = w' := by
  have hl : t.length ≤ s.length := by rw [h, List.length_append]; omega
  have hb := drop_beq h
  clear h
  go_enter Try.func31, Try.ntmps31
  go_wp2
  go_ret
  exact ⟨rfl, rfl⟩

theorem nested {x : List UInt8} {v : Sem.Ver} (h : Sem.parse x = some v) :
    (Sem.majorOf x).isEmpty = false ∧ (∃ r, x = Sem.majorOf x ++ r) ∧ (∃ r, Sem.majorMinor x = (Sem.majorOf x ++ [46]) ++ r) ∧ (∃ r, Sem.canonical x = (Sem.majorMinor x ++ [46]) ++ r) ∧ (∃ r, Sem.canonical x = r ++ Sem.prerelease x) ∧ (∃ r, x = r ++ Sem.build x) := by
  rw [Sem.major_text h, Sem.majorMinor_text h, Sem.canon_text h, Sem.pre_text h, Sem.build_text h]
  refine ⟨rfl, ?_, ⟨v.minor, by simp⟩, ⟨v.patch ++ v.pre, by simp⟩, ⟨118 :: (v.major ++ 46 :: (v.minor ++ 46 :: v.patch)), by simp⟩, ?_⟩
  · obtain ⟨_, rfl⟩ := Sem.parse_iff.1 h
    exact ⟨_, rfl⟩
  · obtain ⟨⟨ha, hb, hd, hg⟩, rfl⟩ := Sem.parse_iff.1 h
    obtain ⟨a, b, d, sh, pre, build⟩ := v
    simp only at hg
    rcases hg with ⟨rfl, ht⟩ | ⟨rfl, rfl, rfl, rfl⟩ | ⟨rfl, rfl, rfl, rfl, rfl⟩
    · exact ⟨118 :: (a ++ 46 :: (b ++ 46 :: (d ++ pre))), by simp [Sem.textOf]⟩
    · exact ⟨_, (List.append_nil _).symm⟩
    · exact ⟨_, (List.append_nil _).symm⟩

set_option maxHeartbeats 2000000 in
theorem walk_FnPartsNested (s0 : ByteArray) (w : World) (b0 : s0.size ≤ 140737488351232) :
    Calls Try.prog 14 #[.string s0] w fun e w' => e = .returned (.bool true) ∧ Below w.heap.size w w' := by
  rw [← len_of] at b0
  rw [str_of]
  generalize s0.data.toList = x at *
  have hl0 := canonical_len' x
  cases hx : Sem.parse x with
  | none =>
    have h1 : Sem.isValid x = false := by unfold Sem.isValid; rw [hx]; rfl
    have h2 := Sem.major_none hx
    have h3 := Sem.majorMinor_none hx
    have h4 := Sem.pre_none hx
    have h5 := Sem.build_none hx
    clear hx
    go_enter Try.func14, Try.ntmps14
    go_wp2_with (first | (go_at_call 20; refine (impl_CompareVersions _ _ _ (by first | omega | (simp; done) | (simp; omega)) (by first | omega | (simp; done) | (simp; omega))).mono ?_; rintro e w' ⟨rfl, hb⟩) | (go_at_call 17; refine (impl_VersionOk _ _ (by first | omega | (simp; done) | (simp; omega))).mono ?_; rintro e w' ⟨rfl, hb⟩) | (go_at_call 25; refine (impl_CanonicalVersion _ _ (by first | omega | (simp; done) | (simp; omega))).mono ?_; rintro e w' ⟨rfl, hb⟩) | (go_at_call 28; refine (impl_MajorOf _ _ (by first | omega | (simp; done) | (simp; omega))).mono ?_; rintro e w' ⟨rfl, hb⟩) | (go_at_call 29; refine (impl_MajorMinorOf _ _ (by first | omega | (simp; done) | (simp; omega))).mono ?_; rintro e w' ⟨rfl, hb⟩) | (go_at_call 21; refine (impl_PrereleaseOf _ _ (by first | omega | (simp; done) | (simp; omega))).mono ?_; rintro e w' ⟨rfl, hb⟩) | (go_at_call 22; refine (impl_BuildOf _ _ (by first | omega | (simp; done) | (simp; omega))).mono ?_; rintro e w' ⟨rfl, hb⟩) | (go_at_call 19; refine (impl_MaxVersion _ _ _ (by first | omega | (simp; done) | (simp; omega)) (by first | omega | (simp; done) | (simp; omega))).mono ?_; rintro e w' ⟨rfl, hb⟩) | (go_at_call 16; refine (veWorks_any _).mono ?_; rintro e w' ⟨rfl, hb⟩))
    go_ret
    exact ⟨rfl, (by repeat (first | (with_reducible assumption) | (with_reducible exact Below.refl _ _) | (with_reducible refine bl_next' ?_ (by with_reducible assumption))))⟩
  | some v =>
    have h1 : Sem.isValid x = true := by unfold Sem.isValid; rw [hx]; rfl
    obtain ⟨he, ⟨r1, k1⟩, ⟨r2, k2⟩, ⟨r3, k3⟩, ⟨r4, k4⟩, ⟨r5, k5⟩⟩ := nested hx
    have l1 : (Sem.majorOf x).length ≤ x.length := by have := congrArg List.length k1; rw [List.length_append] at this; omega
    have l3 : (Sem.majorMinor x).length ≤ x.length + 4 := by have := congrArg List.length k3; simp at this; omega
    have K1 := Lib.hid k1
    have K2 := Lib.hid k2
    have K3 := Lib.hid k3
    have K4 := Lib.hid k4
    have K5 := Lib.hid k5
    clear hx k1 k2 k3 k4 k5
    go_enter Try.func14, Try.ntmps14
    go_wp2_with (first | (go_at_call 30; first | ((with_reducible refine (begins_yes _ _ _ _ K1.out (by omega)).mono ?_); rintro e w' ⟨rfl, rfl⟩) | ((with_reducible refine (begins_yes _ _ _ _ K2.out (by omega)).mono ?_); rintro e w' ⟨rfl, rfl⟩) | ((with_reducible refine (begins_yes _ _ _ _ K3.out (by omega)).mono ?_); rintro e w' ⟨rfl, rfl⟩)) | (go_at_call 31; first | ((with_reducible refine (ends_yes _ _ _ _ K4.out (by omega)).mono ?_); rintro e w' ⟨rfl, rfl⟩) | ((with_reducible refine (ends_yes _ _ _ _ K5.out (by omega)).mono ?_); rintro e w' ⟨rfl, rfl⟩)) | (first | (go_at_call 20; refine (impl_CompareVersions _ _ _ (by first | omega | (simp; done) | (simp; omega)) (by first | omega | (simp; done) | (simp; omega))).mono ?_; rintro e w' ⟨rfl, hb⟩) | (go_at_call 17; refine (impl_VersionOk _ _ (by first | omega | (simp; done) | (simp; omega))).mono ?_; rintro e w' ⟨rfl, hb⟩) | (go_at_call 25; refine (impl_CanonicalVersion _ _ (by first | omega | (simp; done) | (simp; omega))).mono ?_; rintro e w' ⟨rfl, hb⟩) | (go_at_call 28; refine (impl_MajorOf _ _ (by first | omega | (simp; done) | (simp; omega))).mono ?_; rintro e w' ⟨rfl, hb⟩) | (go_at_call 29; refine (impl_MajorMinorOf _ _ (by first | omega | (simp; done) | (simp; omega))).mono ?_; rintro e w' ⟨rfl, hb⟩) | (go_at_call 21; refine (impl_PrereleaseOf _ _ (by first | omega | (simp; done) | (simp; omega))).mono ?_; rintro e w' ⟨rfl, hb⟩) | (go_at_call 22; refine (impl_BuildOf _ _ (by first | omega | (simp; done) | (simp; omega))).mono ?_; rintro e w' ⟨rfl, hb⟩) | (go_at_call 19; refine (impl_MaxVersion _ _ _ (by first | omega | (simp; done) | (simp; omega)) (by first | omega | (simp; done) | (simp; omega))).mono ?_; rintro e w' ⟨rfl, hb⟩) | (go_at_call 16; refine (veWorks_any _).mono ?_; rintro e w' ⟨rfl, hb⟩)))
    go_ret
    exact ⟨rfl, (by repeat (first | (with_reducible assumption) | (with_reducible exact Below.refl _ _) | (with_reducible refine bl_next' ?_ (by with_reducible assumption))))⟩

theorem bad_last (x : List UInt8) {c : UInt8} (h : Sem.isId c = false) : Sem.isValid (x ++ [c]) = false := by
  cases k : Sem.isValid (x ++ [c]) with
  | false => rfl
  | true =>
    obtain ⟨v, hv⟩ := Sem.isValid_true k
    obtain ⟨d, h1, h2⟩ := Sem.valid_ends hv
    rw [List.getLast?_append] at h1
    simp at h1
    rw [← h1, h] at h2
    cases h2
theorem no_plus {l : List UInt8} (h : ∀ c ∈ l, c ≠ 43) : l.count 43 = 0 := List.count_eq_zero.2 (fun k => h 43 k rfl)
theorem num_no {t : List UInt8} (h : Sem.Num t) : t.count 43 = 0 := no_plus (fun c hc e => by have := List.all_eq_true.1 h.2.1 c hc; rw [e] at this; revert this; decide)
theorem chk_no {n : Bool} {t : List UInt8} (h : Sem.chk n [] t = true) : t.count 43 = 0 := no_plus (fun c hc e => by have := List.all_eq_true.1 (Sem.chk_no_plus h) c hc; rw [e] at this; revert this; decide)
theorem one_plus {x : List UInt8} {v : Sem.Ver} (h : Sem.parse x = some v) : x.count 43 ≤ 1 := by
  obtain ⟨⟨ha, hb, hd, hg⟩, rfl⟩ := Sem.parse_iff.1 h
  obtain ⟨a, b, d, sh, pre, build⟩ := v
  simp only at ha hb hd hg
  have na := num_no ha
  have nb := num_no hb
  have nd := num_no hd
  rcases hg with ⟨rfl, h1, h2⟩ | ⟨rfl, rfl, rfl, rfl⟩ | ⟨rfl, rfl, rfl, rfl, rfl⟩
  · have np : pre.count 43 = 0 := by
      rcases h1 with h1 | ⟨y, h1, hy⟩
      · rw [h1]; rfl
      · rw [h1, List.count_cons, chk_no hy]; rfl
    have nq : build.count 43 ≤ 1 := by
      rcases h2 with h2 | ⟨y, h2, hy⟩
      · rw [h2]; simp
      · rw [h2, List.count_cons, chk_no hy]; simp
    simp [Sem.textOf, na, nb, nd, np]; exact nq
  · simp [Sem.textOf, na, nb]
  · simp [Sem.textOf, na]
theorem bad_two (x : List UInt8) : Sem.isValid (x ++ [43, 97, 43, 98]) = false := by
  cases k : Sem.isValid (x ++ [43, 97, 43, 98]) with
  | false => rfl
  | true =>
    obtain ⟨v, hv⟩ := Sem.isValid_true k
    have := one_plus hv
    rw [List.count_append] at this
    have e : ([43, 97, 43, 98] : List UInt8).count 43 = 2 := by decide
    omega
theorem bad_hyphen {x : List UInt8} {v : Sem.Ver} (h : Sem.parse x = some v) (hp : Sem.prerelease x = []) (hb : Sem.build x = []) : Sem.isValid (x ++ [45]) = false := by
  rw [Sem.pre_text h] at hp
  rw [Sem.build_text h] at hb
  cases k : Sem.isValid (x ++ [45]) with
  | false => rfl
  | true =>
    exfalso
    obtain ⟨u, hu⟩ := Sem.isValid_true k
    have hu' := hu
    obtain ⟨⟨ha, hbb, hd, hg⟩, rfl⟩ := Sem.parse_iff.1 h
    obtain ⟨a, b, d, sh, pre, build⟩ := v
    simp only at ha hbb hd hg hp hb
    subst hp hb
    have nh : Sem.NoDig [45] := fun c h => by simp at h; rw [← h]; decide
    rcases hg with ⟨rfl, _⟩ | ⟨rfl, rfl, _, _⟩ | ⟨rfl, rfl, rfl, _, _⟩
    · have e3 : Sem.parseInt (d ++ [45]) = some (d, [45]) := Sem.parseInt_iff.2 ⟨rfl, hd, nh⟩
      have e2 : Sem.parseInt (b ++ 46 :: (d ++ [45])) = some (b, 46 :: (d ++ [45])) := Sem.parseInt_iff.2 ⟨rfl, hbb, Sem.noDig_dot _⟩
      have e1 : Sem.parseInt (a ++ 46 :: (b ++ 46 :: (d ++ [45]))) = some (a, 46 :: (b ++ 46 :: (d ++ [45]))) := Sem.parseInt_iff.2 ⟨rfl, ha, Sem.noDig_dot _⟩
      have e4 : Sem.parseTail a b d [45] = none := by simp [Sem.parseTail, Sem.parsePre, Sem.chk]
      simp [Sem.textOf, Sem.parse, e1, e2, e3, e4] at hu'
    · have e2 : Sem.parseInt (b ++ [45]) = some (b, [45]) := Sem.parseInt_iff.2 ⟨rfl, hbb, nh⟩
      have e1 : Sem.parseInt (a ++ 46 :: (b ++ [45])) = some (a, 46 :: (b ++ [45])) := Sem.parseInt_iff.2 ⟨rfl, ha, Sem.noDig_dot _⟩
      simp [Sem.textOf, Sem.parse, e1, e2] at hu'
    · have e1 : Sem.parseInt (a ++ [45]) = some (a, [45]) := Sem.parseInt_iff.2 ⟨rfl, ha, nh⟩
      simp [Sem.textOf, Sem.parse, e1] at hu'
theorem bad_heads {x : List UInt8} {v : Sem.Ver} (h : Sem.parse x = some v) : Sem.isValid x.tail = false ∧ Sem.isValid (86 :: x.tail) = false ∧ Sem.isValid (118 :: x) = false := by
  obtain ⟨⟨ha, hb, hd, hg⟩, rfl⟩ := Sem.parse_iff.1 h
  obtain ⟨a, b, d, sh, pre, build⟩ := v
  simp only at ha
  cases a with
  | nil => exact absurd rfl ha.1
  | cons c a =>
    have hc : Sem.isDig c = true := List.all_eq_true.1 ha.2.1 c (by simp)
    have hne : c ≠ 118 := fun e => by rw [e] at hc; revert hc; decide
    have h118 : Sem.isDig 118 = false := by decide
    refine ⟨?_, ?_, ?_⟩
    · simp [Sem.isValid, Sem.textOf, Sem.parse, hne]
    · simp [Sem.isValid, Sem.parse]
    · simp [Sem.isValid, Sem.textOf, Sem.parse, Sem.parseInt, h118]

def tails : Array Value := #[str [46], str [95], str [32], str [126], str [45], str [43], str [43, 97, 43, 98], str [47], str [10]]
set_option maxHeartbeats 4000000 in
set_option maxRecDepth 100000 in
theorem walk_FnEmptyParts (s0 : ByteArray) (w : World) (b0 : s0.size ≤ 140737488351232) :
    Calls Try.prog 6 #[.string s0] w fun e w' => e = .returned (.bool true) ∧ Below w.heap.size w w' := by
  rw [← len_of] at b0
  rw [str_of]
  generalize s0.data.toList = x at *
  cases hx : Sem.parse x with
  | none =>
    have h1 : Sem.isValid x = false := by unfold Sem.isValid; rw [hx]; rfl
    clear hx
    go_enter Try.func6, Try.ntmps6
    go_wp2_with (first | (go_at_call 20; refine (impl_CompareVersions _ _ _ (by first | omega | (simp; done) | (simp; omega)) (by first | omega | (simp; done) | (simp; omega))).mono ?_; rintro e w' ⟨rfl, hb⟩) | (go_at_call 17; refine (impl_VersionOk _ _ (by first | omega | (simp; done) | (simp; omega))).mono ?_; rintro e w' ⟨rfl, hb⟩) | (go_at_call 25; refine (impl_CanonicalVersion _ _ (by first | omega | (simp; done) | (simp; omega))).mono ?_; rintro e w' ⟨rfl, hb⟩) | (go_at_call 28; refine (impl_MajorOf _ _ (by first | omega | (simp; done) | (simp; omega))).mono ?_; rintro e w' ⟨rfl, hb⟩) | (go_at_call 29; refine (impl_MajorMinorOf _ _ (by first | omega | (simp; done) | (simp; omega))).mono ?_; rintro e w' ⟨rfl, hb⟩) | (go_at_call 21; refine (impl_PrereleaseOf _ _ (by first | omega | (simp; done) | (simp; omega))).mono ?_; rintro e w' ⟨rfl, hb⟩) | (go_at_call 22; refine (impl_BuildOf _ _ (by first | omega | (simp; done) | (simp; omega))).mono ?_; rintro e w' ⟨rfl, hb⟩) | (go_at_call 19; refine (impl_MaxVersion _ _ _ (by first | omega | (simp; done) | (simp; omega)) (by first | omega | (simp; done) | (simp; omega))).mono ?_; rintro e w' ⟨rfl, hb⟩) | (go_at_call 16; refine (veWorks_any _).mono ?_; rintro e w' ⟨rfl, hb⟩))
    go_ret
    exact ⟨rfl, (by repeat (first | (with_reducible assumption) | (with_reducible exact Below.refl _ _) | (with_reducible refine bl_next' ?_ (by with_reducible assumption))))⟩
  | some v =>
    have h1 : Sem.isValid x = true := by unfold Sem.isValid; rw [hx]; rfl
    have hne : 1 ≤ x.length := by cases x with | nil => cases hx | cons => simp
    have hbh := bad_hyphen hx
    obtain ⟨g1, g2, g3⟩ := bad_heads hx
    have lp : (Sem.prerelease x).length ≤ x.length := by rw [Sem.pre_text hx]; exact (Sem.parse_len hx).2.2.2.2.1
    have lb : (Sem.build x).length ≤ x.length := by rw [Sem.build_text hx]; exact (Sem.parse_len hx).2.2.2.2.2
    have HBH := Lib.hid hbh
    clear hx hbh
    go_enter Try.func6, Try.ntmps6
    go_wp2_with fail
    refine (impl_VersionOk _ _ (by omega)).mono ?_
    rintro e w1 ⟨rfl, hb1⟩
    go_wp2_with fail
    go_loopw [11] (fun i wr => ∃ k : Nat, k ≤ 9 ∧ i = .int .i64 k ∧ Hid (Below (w1.alloc (.cells tails 9)).heap.size (w1.alloc (.cells tails 9)) wr)) (fun i _ => 9 - (intOf i).toNat)
    case atStart => exact ⟨0, by omega, rfl, Lib.hid (Below.refl _ _)⟩
    case round =>
      obtain ⟨k, hk, rfl, hbw⟩ := hrel
      have hcell : ∀ (j : Nat) (u : Value), tails[j]? = some u → wr.cell? ⟨w1.heap.size, j, none⟩ = some u := fun j u hu => by
        rw [hbw.out.cell (p := ⟨w1.heap.size, j, none⟩) (by simp), ← hu]
        exact cell_of_row _ _ _ tails 9 (0, 0) (heap_alloc_new w1 _)
      have HCELL := Lib.hid hcell
      clear hcell
      have hb0 : Below wr.heap.size wr wr := Below.refl _ _
      by_cases hlt : k < 9
      · obtain rfl | rfl | rfl | rfl | rfl | rfl | rfl | rfl | rfl : k = 0 ∨ k = 1 ∨ k = 2 ∨ k = 3 ∨ k = 4 ∨ k = 5 ∨ k = 6 ∨ k = 7 ∨ k = 8 := by omega
        · have hc : wr.cell? ⟨w1.heap.size, 0, none⟩ = some (str [46]) := HCELL.out 0 _ rfl
          have hq := bad_last x (c := 46) (by decide)
          go_wp2_with (first | (go_at_call 20; refine (impl_CompareVersions _ _ _ (by first | omega | (simp; done) | (simp; omega)) (by first | omega | (simp; done) | (simp; omega))).mono ?_; rintro e w' ⟨rfl, hb⟩) | (go_at_call 17; refine (impl_VersionOk _ _ (by first | omega | (simp; done) | (simp; omega))).mono ?_; rintro e w' ⟨rfl, hb⟩) | (go_at_call 25; refine (impl_CanonicalVersion _ _ (by first | omega | (simp; done) | (simp; omega))).mono ?_; rintro e w' ⟨rfl, hb⟩) | (go_at_call 28; refine (impl_MajorOf _ _ (by first | omega | (simp; done) | (simp; omega))).mono ?_; rintro e w' ⟨rfl, hb⟩) | (go_at_call 29; refine (impl_MajorMinorOf _ _ (by first | omega | (simp; done) | (simp; omega))).mono ?_; rintro e w' ⟨rfl, hb⟩) | (go_at_call 21; refine (impl_PrereleaseOf _ _ (by first | omega | (simp; done) | (simp; omega))).mono ?_; rintro e w' ⟨rfl, hb⟩) | (go_at_call 22; refine (impl_BuildOf _ _ (by first | omega | (simp; done) | (simp; omega))).mono ?_; rintro e w' ⟨rfl, hb⟩) | (go_at_call 19; refine (impl_MaxVersion _ _ _ (by first | omega | (simp; done) | (simp; omega)) (by first | omega | (simp; done) | (simp; omega))).mono ?_; rintro e w' ⟨rfl, hb⟩) | (go_at_call 16; refine (veWorks_any _).mono ?_; rintro e w' ⟨rfl, hb⟩))
          go_roundw
          case rel => exact ⟨1, by omega, rfl, Lib.hid (hbw.out.trans (Below.mono (show Below wr.heap.size wr _ from (by repeat (first | (with_reducible assumption) | (with_reducible exact Below.refl _ _) | (with_reducible refine bl_next' ?_ (by with_reducible assumption))))) hbw.out.size))⟩
          case measure => simp [intOf]
        · have hc : wr.cell? ⟨w1.heap.size, 1, none⟩ = some (str [95]) := HCELL.out 1 _ rfl
          have hq := bad_last x (c := 95) (by decide)
          go_wp2_with (first | (go_at_call 20; refine (impl_CompareVersions _ _ _ (by first | omega | (simp; done) | (simp; omega)) (by first | omega | (simp; done) | (simp; omega))).mono ?_; rintro e w' ⟨rfl, hb⟩) | (go_at_call 17; refine (impl_VersionOk _ _ (by first | omega | (simp; done) | (simp; omega))).mono ?_; rintro e w' ⟨rfl, hb⟩) | (go_at_call 25; refine (impl_CanonicalVersion _ _ (by first | omega | (simp; done) | (simp; omega))).mono ?_; rintro e w' ⟨rfl, hb⟩) | (go_at_call 28; refine (impl_MajorOf _ _ (by first | omega | (simp; done) | (simp; omega))).mono ?_; rintro e w' ⟨rfl, hb⟩) | (go_at_call 29; refine (impl_MajorMinorOf _ _ (by first | omega | (simp; done) | (simp; omega))).mono ?_; rintro e w' ⟨rfl, hb⟩) | (go_at_call 21; refine (impl_PrereleaseOf _ _ (by first | omega | (simp; done) | (simp; omega))).mono ?_; rintro e w' ⟨rfl, hb⟩) | (go_at_call 22; refine (impl_BuildOf _ _ (by first | omega | (simp; done) | (simp; omega))).mono ?_; rintro e w' ⟨rfl, hb⟩) | (go_at_call 19; refine (impl_MaxVersion _ _ _ (by first | omega | (simp; done) | (simp; omega)) (by first | omega | (simp; done) | (simp; omega))).mono ?_; rintro e w' ⟨rfl, hb⟩) | (go_at_call 16; refine (veWorks_any _).mono ?_; rintro e w' ⟨rfl, hb⟩))
          go_roundw
          case rel => exact ⟨2, by omega, rfl, Lib.hid (hbw.out.trans (Below.mono (show Below wr.heap.size wr _ from (by repeat (first | (with_reducible assumption) | (with_reducible exact Below.refl _ _) | (with_reducible refine bl_next' ?_ (by with_reducible assumption))))) hbw.out.size))⟩
          case measure => simp [intOf]
        · have hc : wr.cell? ⟨w1.heap.size, 2, none⟩ = some (str [32]) := HCELL.out 2 _ rfl
          have hq := bad_last x (c := 32) (by decide)
          go_wp2_with (first | (go_at_call 20; refine (impl_CompareVersions _ _ _ (by first | omega | (simp; done) | (simp; omega)) (by first | omega | (simp; done) | (simp; omega))).mono ?_; rintro e w' ⟨rfl, hb⟩) | (go_at_call 17; refine (impl_VersionOk _ _ (by first | omega | (simp; done) | (simp; omega))).mono ?_; rintro e w' ⟨rfl, hb⟩) | (go_at_call 25; refine (impl_CanonicalVersion _ _ (by first | omega | (simp; done) | (simp; omega))).mono ?_; rintro e w' ⟨rfl, hb⟩) | (go_at_call 28; refine (impl_MajorOf _ _ (by first | omega | (simp; done) | (simp; omega))).mono ?_; rintro e w' ⟨rfl, hb⟩) | (go_at_call 29; refine (impl_MajorMinorOf _ _ (by first | omega | (simp; done) | (simp; omega))).mono ?_; rintro e w' ⟨rfl, hb⟩) | (go_at_call 21; refine (impl_PrereleaseOf _ _ (by first | omega | (simp; done) | (simp; omega))).mono ?_; rintro e w' ⟨rfl, hb⟩) | (go_at_call 22; refine (impl_BuildOf _ _ (by first | omega | (simp; done) | (simp; omega))).mono ?_; rintro e w' ⟨rfl, hb⟩) | (go_at_call 19; refine (impl_MaxVersion _ _ _ (by first | omega | (simp; done) | (simp; omega)) (by first | omega | (simp; done) | (simp; omega))).mono ?_; rintro e w' ⟨rfl, hb⟩) | (go_at_call 16; refine (veWorks_any _).mono ?_; rintro e w' ⟨rfl, hb⟩))
          go_roundw
          case rel => exact ⟨3, by omega, rfl, Lib.hid (hbw.out.trans (Below.mono (show Below wr.heap.size wr _ from (by repeat (first | (with_reducible assumption) | (with_reducible exact Below.refl _ _) | (with_reducible refine bl_next' ?_ (by with_reducible assumption))))) hbw.out.size))⟩
          case measure => simp [intOf]
        · have hc : wr.cell? ⟨w1.heap.size, 3, none⟩ = some (str [126]) := HCELL.out 3 _ rfl
          have hq := bad_last x (c := 126) (by decide)
          go_wp2_with (first | (go_at_call 20; refine (impl_CompareVersions _ _ _ (by first | omega | (simp; done) | (simp; omega)) (by first | omega | (simp; done) | (simp; omega))).mono ?_; rintro e w' ⟨rfl, hb⟩) | (go_at_call 17; refine (impl_VersionOk _ _ (by first | omega | (simp; done) | (simp; omega))).mono ?_; rintro e w' ⟨rfl, hb⟩) | (go_at_call 25; refine (impl_CanonicalVersion _ _ (by first | omega | (simp; done) | (simp; omega))).mono ?_; rintro e w' ⟨rfl, hb⟩) | (go_at_call 28; refine (impl_MajorOf _ _ (by first | omega | (simp; done) | (simp; omega))).mono ?_; rintro e w' ⟨rfl, hb⟩) | (go_at_call 29; refine (impl_MajorMinorOf _ _ (by first | omega | (simp; done) | (simp; omega))).mono ?_; rintro e w' ⟨rfl, hb⟩) | (go_at_call 21; refine (impl_PrereleaseOf _ _ (by first | omega | (simp; done) | (simp; omega))).mono ?_; rintro e w' ⟨rfl, hb⟩) | (go_at_call 22; refine (impl_BuildOf _ _ (by first | omega | (simp; done) | (simp; omega))).mono ?_; rintro e w' ⟨rfl, hb⟩) | (go_at_call 19; refine (impl_MaxVersion _ _ _ (by first | omega | (simp; done) | (simp; omega)) (by first | omega | (simp; done) | (simp; omega))).mono ?_; rintro e w' ⟨rfl, hb⟩) | (go_at_call 16; refine (veWorks_any _).mono ?_; rintro e w' ⟨rfl, hb⟩))
          go_roundw
          case rel => exact ⟨4, by omega, rfl, Lib.hid (hbw.out.trans (Below.mono (show Below wr.heap.size wr _ from (by repeat (first | (with_reducible assumption) | (with_reducible exact Below.refl _ _) | (with_reducible refine bl_next' ?_ (by with_reducible assumption))))) hbw.out.size))⟩
          case measure => simp [intOf]
        · by_cases hpb : Sem.prerelease x ++ Sem.build x = []
          · have hq := HBH.out (List.append_eq_nil_iff.1 hpb).1 (List.append_eq_nil_iff.1 hpb).2
            have hpe : (Sem.prerelease x ++ Sem.build x).isEmpty = true := by rw [hpb]; rfl
            clear hpb
            have hc : wr.cell? ⟨w1.heap.size, 4, none⟩ = some (str [45]) := HCELL.out 4 _ rfl
            go_wp2_with (first | (go_at_call 20; refine (impl_CompareVersions _ _ _ (by first | omega | (simp; done) | (simp; omega)) (by first | omega | (simp; done) | (simp; omega))).mono ?_; rintro e w' ⟨rfl, hb⟩) | (go_at_call 17; refine (impl_VersionOk _ _ (by first | omega | (simp; done) | (simp; omega))).mono ?_; rintro e w' ⟨rfl, hb⟩) | (go_at_call 25; refine (impl_CanonicalVersion _ _ (by first | omega | (simp; done) | (simp; omega))).mono ?_; rintro e w' ⟨rfl, hb⟩) | (go_at_call 28; refine (impl_MajorOf _ _ (by first | omega | (simp; done) | (simp; omega))).mono ?_; rintro e w' ⟨rfl, hb⟩) | (go_at_call 29; refine (impl_MajorMinorOf _ _ (by first | omega | (simp; done) | (simp; omega))).mono ?_; rintro e w' ⟨rfl, hb⟩) | (go_at_call 21; refine (impl_PrereleaseOf _ _ (by first | omega | (simp; done) | (simp; omega))).mono ?_; rintro e w' ⟨rfl, hb⟩) | (go_at_call 22; refine (impl_BuildOf _ _ (by first | omega | (simp; done) | (simp; omega))).mono ?_; rintro e w' ⟨rfl, hb⟩) | (go_at_call 19; refine (impl_MaxVersion _ _ _ (by first | omega | (simp; done) | (simp; omega)) (by first | omega | (simp; done) | (simp; omega))).mono ?_; rintro e w' ⟨rfl, hb⟩) | (go_at_call 16; refine (veWorks_any _).mono ?_; rintro e w' ⟨rfl, hb⟩))
            go_roundw
            case rel => exact ⟨5, by omega, rfl, Lib.hid (hbw.out.trans (Below.mono (show Below wr.heap.size wr _ from (by repeat (first | (with_reducible assumption) | (with_reducible exact Below.refl _ _) | (with_reducible refine bl_next' ?_ (by with_reducible assumption))))) hbw.out.size))⟩
            case measure => simp [intOf]
          · have hpe : (Sem.prerelease x ++ Sem.build x).isEmpty = false := by cases h : Sem.prerelease x ++ Sem.build x with | nil => exact absurd h hpb | cons => rfl
            clear hpb
            have hc : wr.cell? ⟨w1.heap.size, 4, none⟩ = some (str [45]) := HCELL.out 4 _ rfl
            go_wp2_with (first | (go_at_call 20; refine (impl_CompareVersions _ _ _ (by first | omega | (simp; done) | (simp; omega)) (by first | omega | (simp; done) | (simp; omega))).mono ?_; rintro e w' ⟨rfl, hb⟩) | (go_at_call 17; refine (impl_VersionOk _ _ (by first | omega | (simp; done) | (simp; omega))).mono ?_; rintro e w' ⟨rfl, hb⟩) | (go_at_call 25; refine (impl_CanonicalVersion _ _ (by first | omega | (simp; done) | (simp; omega))).mono ?_; rintro e w' ⟨rfl, hb⟩) | (go_at_call 28; refine (impl_MajorOf _ _ (by first | omega | (simp; done) | (simp; omega))).mono ?_; rintro e w' ⟨rfl, hb⟩) | (go_at_call 29; refine (impl_MajorMinorOf _ _ (by first | omega | (simp; done) | (simp; omega))).mono ?_; rintro e w' ⟨rfl, hb⟩) | (go_at_call 21; refine (impl_PrereleaseOf _ _ (by first | omega | (simp; done) | (simp; omega))).mono ?_; rintro e w' ⟨rfl, hb⟩) | (go_at_call 22; refine (impl_BuildOf _ _ (by first | omega | (simp; done) | (simp; omega))).mono ?_; rintro e w' ⟨rfl, hb⟩) | (go_at_call 19; refine (impl_MaxVersion _ _ _ (by first | omega | (simp; done) | (simp; omega)) (by first | omega | (simp; done) | (simp; omega))).mono ?_; rintro e w' ⟨rfl, hb⟩) | (go_at_call 16; refine (veWorks_any _).mono ?_; rintro e w' ⟨rfl, hb⟩))
            go_roundw
            case rel => exact ⟨5, by omega, rfl, Lib.hid (hbw.out.trans (Below.mono (show Below wr.heap.size wr _ from (by repeat (first | (with_reducible assumption) | (with_reducible exact Below.refl _ _) | (with_reducible refine bl_next' ?_ (by with_reducible assumption))))) hbw.out.size))⟩
            case measure => simp [intOf]
        · have hc : wr.cell? ⟨w1.heap.size, 5, none⟩ = some (str [43]) := HCELL.out 5 _ rfl
          have hq := bad_last x (c := 43) (by decide)
          go_wp2_with (first | (go_at_call 20; refine (impl_CompareVersions _ _ _ (by first | omega | (simp; done) | (simp; omega)) (by first | omega | (simp; done) | (simp; omega))).mono ?_; rintro e w' ⟨rfl, hb⟩) | (go_at_call 17; refine (impl_VersionOk _ _ (by first | omega | (simp; done) | (simp; omega))).mono ?_; rintro e w' ⟨rfl, hb⟩) | (go_at_call 25; refine (impl_CanonicalVersion _ _ (by first | omega | (simp; done) | (simp; omega))).mono ?_; rintro e w' ⟨rfl, hb⟩) | (go_at_call 28; refine (impl_MajorOf _ _ (by first | omega | (simp; done) | (simp; omega))).mono ?_; rintro e w' ⟨rfl, hb⟩) | (go_at_call 29; refine (impl_MajorMinorOf _ _ (by first | omega | (simp; done) | (simp; omega))).mono ?_; rintro e w' ⟨rfl, hb⟩) | (go_at_call 21; refine (impl_PrereleaseOf _ _ (by first | omega | (simp; done) | (simp; omega))).mono ?_; rintro e w' ⟨rfl, hb⟩) | (go_at_call 22; refine (impl_BuildOf _ _ (by first | omega | (simp; done) | (simp; omega))).mono ?_; rintro e w' ⟨rfl, hb⟩) | (go_at_call 19; refine (impl_MaxVersion _ _ _ (by first | omega | (simp; done) | (simp; omega)) (by first | omega | (simp; done) | (simp; omega))).mono ?_; rintro e w' ⟨rfl, hb⟩) | (go_at_call 16; refine (veWorks_any _).mono ?_; rintro e w' ⟨rfl, hb⟩))
          go_roundw
          case rel => exact ⟨6, by omega, rfl, Lib.hid (hbw.out.trans (Below.mono (show Below wr.heap.size wr _ from (by repeat (first | (with_reducible assumption) | (with_reducible exact Below.refl _ _) | (with_reducible refine bl_next' ?_ (by with_reducible assumption))))) hbw.out.size))⟩
          case measure => simp [intOf]
        · by_cases hpb : Sem.build x = []
          · have hq := bad_two x
            have hpe : (Sem.build x).isEmpty = true := by rw [hpb]; rfl
            clear hpb
            have hc : wr.cell? ⟨w1.heap.size, 6, none⟩ = some (str [43, 97, 43, 98]) := HCELL.out 6 _ rfl
            go_wp2_with (first | (go_at_call 20; refine (impl_CompareVersions _ _ _ (by first | omega | (simp; done) | (simp; omega)) (by first | omega | (simp; done) | (simp; omega))).mono ?_; rintro e w' ⟨rfl, hb⟩) | (go_at_call 17; refine (impl_VersionOk _ _ (by first | omega | (simp; done) | (simp; omega))).mono ?_; rintro e w' ⟨rfl, hb⟩) | (go_at_call 25; refine (impl_CanonicalVersion _ _ (by first | omega | (simp; done) | (simp; omega))).mono ?_; rintro e w' ⟨rfl, hb⟩) | (go_at_call 28; refine (impl_MajorOf _ _ (by first | omega | (simp; done) | (simp; omega))).mono ?_; rintro e w' ⟨rfl, hb⟩) | (go_at_call 29; refine (impl_MajorMinorOf _ _ (by first | omega | (simp; done) | (simp; omega))).mono ?_; rintro e w' ⟨rfl, hb⟩) | (go_at_call 21; refine (impl_PrereleaseOf _ _ (by first | omega | (simp; done) | (simp; omega))).mono ?_; rintro e w' ⟨rfl, hb⟩) | (go_at_call 22; refine (impl_BuildOf _ _ (by first | omega | (simp; done) | (simp; omega))).mono ?_; rintro e w' ⟨rfl, hb⟩) | (go_at_call 19; refine (impl_MaxVersion _ _ _ (by first | omega | (simp; done) | (simp; omega)) (by first | omega | (simp; done) | (simp; omega))).mono ?_; rintro e w' ⟨rfl, hb⟩) | (go_at_call 16; refine (veWorks_any _).mono ?_; rintro e w' ⟨rfl, hb⟩))
            go_roundw
            case rel => exact ⟨7, by omega, rfl, Lib.hid (hbw.out.trans (Below.mono (show Below wr.heap.size wr _ from (by repeat (first | (with_reducible assumption) | (with_reducible exact Below.refl _ _) | (with_reducible refine bl_next' ?_ (by with_reducible assumption))))) hbw.out.size))⟩
            case measure => simp [intOf]
          · have hpe : (Sem.build x).isEmpty = false := by cases h : Sem.build x with | nil => exact absurd h hpb | cons => rfl
            clear hpb
            have hc : wr.cell? ⟨w1.heap.size, 6, none⟩ = some (str [43, 97, 43, 98]) := HCELL.out 6 _ rfl
            go_wp2_with (first | (go_at_call 20; refine (impl_CompareVersions _ _ _ (by first | omega | (simp; done) | (simp; omega)) (by first | omega | (simp; done) | (simp; omega))).mono ?_; rintro e w' ⟨rfl, hb⟩) | (go_at_call 17; refine (impl_VersionOk _ _ (by first | omega | (simp; done) | (simp; omega))).mono ?_; rintro e w' ⟨rfl, hb⟩) | (go_at_call 25; refine (impl_CanonicalVersion _ _ (by first | omega | (simp; done) | (simp; omega))).mono ?_; rintro e w' ⟨rfl, hb⟩) | (go_at_call 28; refine (impl_MajorOf _ _ (by first | omega | (simp; done) | (simp; omega))).mono ?_; rintro e w' ⟨rfl, hb⟩) | (go_at_call 29; refine (impl_MajorMinorOf _ _ (by first | omega | (simp; done) | (simp; omega))).mono ?_; rintro e w' ⟨rfl, hb⟩) | (go_at_call 21; refine (impl_PrereleaseOf _ _ (by first | omega | (simp; done) | (simp; omega))).mono ?_; rintro e w' ⟨rfl, hb⟩) | (go_at_call 22; refine (impl_BuildOf _ _ (by first | omega | (simp; done) | (simp; omega))).mono ?_; rintro e w' ⟨rfl, hb⟩) | (go_at_call 19; refine (impl_MaxVersion _ _ _ (by first | omega | (simp; done) | (simp; omega)) (by first | omega | (simp; done) | (simp; omega))).mono ?_; rintro e w' ⟨rfl, hb⟩) | (go_at_call 16; refine (veWorks_any _).mono ?_; rintro e w' ⟨rfl, hb⟩))
            go_roundw
            case rel => exact ⟨7, by omega, rfl, Lib.hid (hbw.out.trans (Below.mono (show Below wr.heap.size wr _ from (by repeat (first | (with_reducible assumption) | (with_reducible exact Below.refl _ _) | (with_reducible refine bl_next' ?_ (by with_reducible assumption))))) hbw.out.size))⟩
            case measure => simp [intOf]
        · have hc : wr.cell? ⟨w1.heap.size, 7, none⟩ = some (str [47]) := HCELL.out 7 _ rfl
          have hq := bad_last x (c := 47) (by decide)
          go_wp2_with (first | (go_at_call 20; refine (impl_CompareVersions _ _ _ (by first | omega | (simp; done) | (simp; omega)) (by first | omega | (simp; done) | (simp; omega))).mono ?_; rintro e w' ⟨rfl, hb⟩) | (go_at_call 17; refine (impl_VersionOk _ _ (by first | omega | (simp; done) | (simp; omega))).mono ?_; rintro e w' ⟨rfl, hb⟩) | (go_at_call 25; refine (impl_CanonicalVersion _ _ (by first | omega | (simp; done) | (simp; omega))).mono ?_; rintro e w' ⟨rfl, hb⟩) | (go_at_call 28; refine (impl_MajorOf _ _ (by first | omega | (simp; done) | (simp; omega))).mono ?_; rintro e w' ⟨rfl, hb⟩) | (go_at_call 29; refine (impl_MajorMinorOf _ _ (by first | omega | (simp; done) | (simp; omega))).mono ?_; rintro e w' ⟨rfl, hb⟩) | (go_at_call 21; refine (impl_PrereleaseOf _ _ (by first | omega | (simp; done) | (simp; omega))).mono ?_; rintro e w' ⟨rfl, hb⟩) | (go_at_call 22; refine (impl_BuildOf _ _ (by first | omega | (simp; done) | (simp; omega))).mono ?_; rintro e w' ⟨rfl, hb⟩) | (go_at_call 19; refine (impl_MaxVersion _ _ _ (by first | omega | (simp; done) | (simp; omega)) (by first | omega | (simp; done) | (simp; omega))).mono ?_; rintro e w' ⟨rfl, hb⟩) | (go_at_call 16; refine (veWorks_any _).mono ?_; rintro e w' ⟨rfl, hb⟩))
          go_roundw
          case rel => exact ⟨8, by omega, rfl, Lib.hid (hbw.out.trans (Below.mono (show Below wr.heap.size wr _ from (by repeat (first | (with_reducible assumption) | (with_reducible exact Below.refl _ _) | (with_reducible refine bl_next' ?_ (by with_reducible assumption))))) hbw.out.size))⟩
          case measure => simp [intOf]
        · have hc : wr.cell? ⟨w1.heap.size, 8, none⟩ = some (str [10]) := HCELL.out 8 _ rfl
          have hq := bad_last x (c := 10) (by decide)
          go_wp2_with (first | (go_at_call 20; refine (impl_CompareVersions _ _ _ (by first | omega | (simp; done) | (simp; omega)) (by first | omega | (simp; done) | (simp; omega))).mono ?_; rintro e w' ⟨rfl, hb⟩) | (go_at_call 17; refine (impl_VersionOk _ _ (by first | omega | (simp; done) | (simp; omega))).mono ?_; rintro e w' ⟨rfl, hb⟩) | (go_at_call 25; refine (impl_CanonicalVersion _ _ (by first | omega | (simp; done) | (simp; omega))).mono ?_; rintro e w' ⟨rfl, hb⟩) | (go_at_call 28; refine (impl_MajorOf _ _ (by first | omega | (simp; done) | (simp; omega))).mono ?_; rintro e w' ⟨rfl, hb⟩) | (go_at_call 29; refine (impl_MajorMinorOf _ _ (by first | omega | (simp; done) | (simp; omega))).mono ?_; rintro e w' ⟨rfl, hb⟩) | (go_at_call 21; refine (impl_PrereleaseOf _ _ (by first | omega | (simp; done) | (simp; omega))).mono ?_; rintro e w' ⟨rfl, hb⟩) | (go_at_call 22; refine (impl_BuildOf _ _ (by first | omega | (simp; done) | (simp; omega))).mono ?_; rintro e w' ⟨rfl, hb⟩) | (go_at_call 19; refine (impl_MaxVersion _ _ _ (by first | omega | (simp; done) | (simp; omega)) (by first | omega | (simp; done) | (simp; omega))).mono ?_; rintro e w' ⟨rfl, hb⟩) | (go_at_call 16; refine (veWorks_any _).mono ?_; rintro e w' ⟨rfl, hb⟩))
          go_roundw
          case rel => exact ⟨9, by omega, rfl, Lib.hid (hbw.out.trans (Below.mono (show Below wr.heap.size wr _ from (by repeat (first | (with_reducible assumption) | (with_reducible exact Below.refl _ _) | (with_reducible refine bl_next' ?_ (by with_reducible assumption))))) hbw.out.size))⟩
          case measure => simp [intOf]
      · obtain rfl : k = 9 := by omega
        have hd : ∀ y : List UInt8, Value.string (ByteArray.mk y.toArray ++ (ByteArray.mk x.toArray).extract 1 x.length) = str (y ++ x.drop 1) := fun y => by
          have e : (ByteArray.mk x.toArray).extract 1 x.length = ByteArray.mk (x.drop 1).toArray := by rw [ByteArray.extract_mk, List.take_of_length_le (by simp)]
          rw [e, app_str]
        have HD := Lib.hid hd
        clear hd
        have hdl : (x.drop 1).length ≤ x.length := by rw [List.length_drop]; omega
        go_wp2_with fail
        rw [ext_str, List.take_of_length_le (by rw [List.length_drop]; omega)]
        refine (impl_VersionOk _ _ (by omega)).mono ?_
        rintro e w2 ⟨rfl, hb2⟩
        go_wp2_with fail
        rw [HD.out]
        refine (impl_VersionOk _ _ (by simp; omega)).mono ?_
        rintro e w3 ⟨rfl, hb3⟩
        go_wp2_with fail
        refine (impl_VersionOk _ _ (by simp; omega)).mono ?_
        rintro e w4 ⟨rfl, hb4⟩
        go_wp2_with fail
        go_ret
        exact ⟨rfl, bl_next' (bl_next' (bl_next' (bl_chain hb1 hbw.out) hb2) hb3) hb4⟩

end Go.Proofs.Ytoefecanbmpkjaa
