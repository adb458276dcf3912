/- Contracts of semver.Sort and impl.SortVersions: the list in order, in memory of its own. The sort itself is the kit's contract of slices.SortFunc at whatever length; what is paid here: how its functions lie in this program (SortLay), compareVersion's contract (Bel), that it is an order. Condition: texts no longer than 2 to the power of 50. -/
import Derived.Test.YtienkoadkhcghaaSortLay
import Derived.Test.YtienkoadkhcghaaBel
import Derived.Test.YtienkoadkhcghaaSortLaw
import Derived.Test.YtienkoadkhcghaaSpec2
namespace Go.Proofs.Ytienkoadkhcghaa
open Go.RowKit Go.Shelf Go.Lib Go.Sort
attribute [local go_sem] app_str

/-- a text that is not too long -/
abbrev Tx := { l : List UInt8 // l.length ≤ 1125899906842624 }
instance : Inhabited Tx := ⟨⟨[], by simp⟩⟩
def encT (x : Tx) : Value := str x.val
def cfT (x y : Tx) : Int := Sem.cmpVersion x.val y.val
theorem ltT (x y : Tx) : ltOf cfT x y = decide (Sem.cmpVersion x.val y.val < 0) := rfl
theorem swoT : SWO (ltOf cfT) := {
  irrefl := fun x => by rw [ltT, Sem.lin_version.self]; rfl
  trans := fun x y z h1 h2 => by
    rw [ltT] at *
    simp only [decide_eq_true_eq] at *
    have := Sem.lin_version.chain x.val y.val z.val (by omega) (by omega)
    omega
  ntrans := fun x y z h1 h2 => by
    rw [ltT] at *
    simp only [decide_eq_false_iff_not] at *
    have a := Sem.lin_version.swap x.val y.val
    have b := Sem.lin_version.swap y.val z.val
    have c := Sem.lin_version.swap x.val z.val
    have := Sem.lin_version.chain z.val y.val x.val (by omega) (by omega)
    omega }

theorem cmpLays (blk off size : Nat) (w : World) : CmpLays1 Try.prog 34 #[] encT cfT blk off size w := by
  intro m os dk _ x y
  show Calls Try.prog 34 #[str x.val, str y.val] _ _
  exact (D.compareVersion_any x.val y.val _ x.2 y.2).mono (fun _ _ h => ⟨h.1, h.2.grown⟩)

/-- a list of texts as the sort has it -/
def attach (xs : List (List UInt8)) (h : ∀ x ∈ xs, x.length ≤ 1125899906842624) : List Tx := xs.pmap (fun x hx => ⟨x, hx⟩) h
theorem attach_val (xs : List (List UInt8)) (h : ∀ x ∈ xs, x.length ≤ 1125899906842624) : (attach xs h).map Subtype.val = xs := by
  unfold attach
  rw [List.map_pmap]
  simp
theorem attach_len (xs : List (List UInt8)) (h : ∀ x ∈ xs, x.length ≤ 1125899906842624) : (attach xs h).length = xs.length := by simp [attach]
theorem attach_get (xs : List (List UInt8)) (h : ∀ x ∈ xs, x.length ≤ 1125899906842624) {j : Nat} (hj : j < xs.length) : ((attach xs h).toArray[j]!).val = xs[j] := by
  have hj' : j < (attach xs h).length := by rw [attach_len]; exact hj
  rw [getElem!_pos _ j (by simpa using hj')]
  simp [attach]
theorem sorted_val {xs : List (List UInt8)} {h : ∀ x ∈ xs, x.length ≤ 1125899906842624} {d' : Array Tx} (hp : PermIn 0 (attach xs h).toArray.size (attach xs h).toArray d') (hs : SortedIn (ltOf cfT) 0 (attach xs h).toArray.size d') : d'.toList.map Subtype.val = Sem.sortV xs := by
  obtain ⟨hsz, -, hperm⟩ := hp
  have e1 : d'.extract 0 (attach xs h).toArray.size = d' := by rw [← hsz]; simp
  have e2 : (attach xs h).toArray.extract 0 (attach xs h).toArray.size = (attach xs h).toArray := by simp
  rw [e1, e2] at hperm
  refine Sem.sortV_unique ?_ ?_
  · have := hperm.map Subtype.val
    rwa [show (attach xs h).toArray.toList = attach xs h from rfl, attach_val] at this
  · rw [List.pairwise_map, List.pairwise_iff_getElem]
    intro i j hi hj hij
    have := hs i j (Nat.zero_le _) hij (by rw [← hsz]; simpa using hj)
    rw [getElem!_pos d' i (by simpa using hi), getElem!_pos d' j (by simpa using hj), ltT] at this
    unfold Sem.le
    simp only [Array.getElem_toList]
    rw [this]; rfl

theorem below_sort {w : World} {blk n : Nat} {d' : Array Tx} {os : Array Obj} (off : Nat) (hblk : blk < w.heap.size) : Below blk w (sortWorld encT w blk off n d' os) := by
  unfold sortWorld
  refine ⟨rfl, rfl, rfl, ?_, ?_⟩
  · simp [grow, putRow, mapBlock, Sort.ahead]
  · intro k hk
    have hs : k < w.heap.size := by omega
    simp only [grow, putRow, mapBlock, Sort.ahead]
    rw [Array.getElem?_append_left (by simpa using hs), Array.getElem?_modify, if_neg (by omega)]

theorem own_some {w : World} {base n : Nat} {v : Value} {xs : List Value} (h : w.ownsRow base 9 1 v n xs) (hn : 0 < n) : ∃ g cap, v = .slice (some ⟨g, 0, none⟩) n cap ∧ base ≤ g := by
  rcases h.2 with ⟨_, h0⟩ | ⟨g, cap, cur, e, hb, _⟩
  · omega
  · exact ⟨g, cap, e, hb⟩
theorem own_cap {w : World} {base n g cap : Nat} {xs : List Value} (h : w.ownsRow base 9 1 (.slice (some ⟨g, 0, none⟩) n cap) n xs) : n ≤ cap ∧ cap ≤ 9223372036854775807 := by
  rcases h.2 with ⟨e, _⟩ | ⟨g', cap', cur, e, _, _, hnc, hcm, _⟩
  · cases e
  · cases e; exact ⟨hnc, hcm⟩

set_option maxHeartbeats 1000000 in
theorem sort_any (base g cap : Nat) (xs : List (List UInt8)) (w : World) (hown : w.ownsRow base 9 1 (.slice (some ⟨g, 0, none⟩) xs.length cap) xs.length (xs.map str)) (hg : g < w.heap.size) (hl : ∀ x ∈ xs, x.length ≤ 1125899906842624) (hn : xs.length ≤ 1125899906842624) :
    Calls Try.prog 28 #[.slice (some ⟨g, 0, none⟩) xs.length cap] w fun e w' => e = .returned (.tuple #[]) ∧ StrsAt w' (.slice (some ⟨g, 0, none⟩) xs.length cap) (Sem.sortV xs) ∧ Below g w w' := by
  have eg : ∀ args w, (callFunc 34 args).run Try.prog w = .ok (.enter 34 args) w := enters_of Try.func34 (by kernel_rfl) rfl
  have hsz : (attach xs hl).toArray.size = xs.length := by simp [attach]
  have hH : Holds encT w g 0 (attach xs hl).toArray := by
    intro j hj
    rw [hsz] at hj
    refine ⟨?_, hown.frozenAt _⟩
    rw [Nat.zero_add, hown.cellAt j (by omega), List.getElem?_map, List.getElem?_eq_getElem hj]
    simp only [encT, Option.map_some]
    rw [attach_get xs hl hj]
  have hcap := own_cap hown
  have hcon := Any.slices_SortFunc sortS encT (fun _ => rfl) cfT swoT 34 #[] g 0 cap (attach xs hl).toArray w eg (cmpLays g 0 _ w) hH hg (by rw [hsz]; omega)
  rw [hsz] at hcon
  change Calls Try.prog 36 _ _ _ at hcon
  have HR : Hid (∀ d' n os, PermIn 0 xs.length (attach xs hl).toArray d' → SortedIn (ltOf cfT) 0 xs.length d' → StrsAt (sortWorld encT w g 0 n d' os) (.slice (some ⟨g, 0, none⟩) xs.length cap) (Sem.sortV xs)) := Lib.hid (fun d' n os hp hs => by
    rw [← hsz] at hp hs
    have hv := sorted_val hp hs
    have hd : d'.size = (attach xs hl).toArray.size := hp.1
    have hHo := holds_sortWorld encT w g 0 n (attach xs hl).toArray d' os hg hH hd
    refine ⟨some ⟨g, 0, none⟩, cap, by rw [Sem.sortV_len], by rw [Sem.sortV_len]; exact hcap.1, hcap.2, .inr ⟨g, 0, rfl, lt_sortWorld encT w g 0 n d' os hg, fun k u hu => ?_⟩⟩
    rw [← hv, List.getElem?_map] at hu
    cases hk : d'.toList[k]? with
    | none => rw [hk] at hu; cases hu
    | some t =>
      rw [hk] at hu
      cases hu
      obtain ⟨hlt, ht⟩ := List.getElem?_eq_some_iff.1 hk
      have hk2 : k < d'.size := by simpa using hlt
      rw [(hHo k hk2).1, getElem!_pos d' k hk2]
      have : d'[k] = t := by rw [← ht]; simp
      rw [this]; rfl)
  clear hH hown hcap
  go_enter Try.func28, Try.ntmps28
  go_wp2_with (go_at_call 36; refine hcon.mono ?_; rintro e w' ⟨rfl, d', n, os, hp, hs, rfl⟩)
  go_end0
  exact ⟨rfl, HR.out d' n os hp hs, below_sort 0 hg⟩

end Go.Proofs.Ytienkoadkhcghaa
