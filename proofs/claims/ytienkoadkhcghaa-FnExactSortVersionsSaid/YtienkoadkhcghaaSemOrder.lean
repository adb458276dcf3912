/- The comparisons of Sem are orders: 'Lin c' says that c answers -1, 0 or 1, the opposite the other way round, and that it is a chain. No program is in sight here; no condition. -/
import Derived.Test.YtienkoadkhcghaaSemForm
namespace Go.Proofs.Ytienkoadkhcghaa.Sem

structure Lin {α : Type} (c : α → α → Int) : Prop where
  val : ∀ x y, c x y = -1 ∨ c x y = 0 ∨ c x y = 1
  swap : ∀ x y, c y x = - c x y
  chain : ∀ x y z, c x y ≤ 0 → c y z ≤ 0 → c x z = min (c x y) (c y z)

theorem Lin.self {α : Type} {c : α → α → Int} (h : Lin c) (x : α) : c x x = 0 := by have := h.swap x x; omega
theorem Lin.pull {α β : Type} {c : α → α → Int} (h : Lin c) (f : β → α) : Lin (fun x y => c (f x) (f y)) :=
  ⟨fun _ _ => h.val _ _, fun _ _ => h.swap _ _, fun _ _ _ => h.chain _ _ _⟩
def lex {α : Type} (c d : α → α → Int) (x y : α) : Int := if c x y ≠ 0 then c x y else d x y
theorem lex_zero {α : Type} {c d : α → α → Int} {x y : α} (h : c x y = 0) : lex c d x y = d x y := by unfold lex; rw [if_neg (by simp [h])]
theorem lex_ne {α : Type} {c d : α → α → Int} {x y : α} (h : c x y ≠ 0) : lex c d x y = c x y := by unfold lex; rw [if_pos h]
theorem Lin.lex {α : Type} {c d : α → α → Int} (h : Lin c) (k : Lin d) : Lin (lex c d) := by
  refine ⟨fun x y => ?_, fun x y => ?_, fun x y z => ?_⟩
  · by_cases e : c x y = 0
    · rw [lex_zero e]; exact k.val x y
    · rw [lex_ne e]; exact h.val x y
  · have h1 := h.swap x y
    have h2 := k.swap x y
    by_cases e : c x y = 0
    · rw [lex_zero e, lex_zero (by omega), h2]
    · rw [lex_ne e, lex_ne (by omega), h1]
  · intro ha hb
    have v1 := h.val x y
    have v2 := h.val y z
    have v3 := h.val x z
    have u1 := k.val x y
    have u2 := k.val y z
    by_cases e1 : c x y = 0
    · rw [lex_zero e1] at ha ⊢
      by_cases e2 : c y z = 0
      · rw [lex_zero e2] at hb ⊢
        have := h.chain x y z (by omega) (by omega)
        rw [lex_zero (by omega)]
        exact k.chain x y z ha hb
      · rw [lex_ne e2] at hb ⊢
        have := h.chain x y z (by omega) (by omega)
        rw [lex_ne (by omega)]
        omega
    · rw [lex_ne e1] at ha ⊢
      by_cases e2 : c y z = 0
      · rw [lex_zero e2] at hb ⊢
        have := h.chain x y z (by omega) (by omega)
        rw [lex_ne (by omega)]
        omega
      · rw [lex_ne e2] at hb ⊢
        have := h.chain x y z (by omega) (by omega)
        rw [lex_ne (by omega)]
        omega
theorem Lin.congr {α : Type} {c d : α → α → Int} (h : Lin c) (e : ∀ x y, d x y = c x y) : Lin d := by
  have : d = c := funext fun x => funext fun y => e x y
  rw [this]; exact h

def cmpNat (m n : Nat) : Int := if m < n then -1 else if n < m then 1 else 0
theorem lin_nat : Lin cmpNat := by
  refine ⟨fun x y => ?_, fun x y => ?_, fun x y z => ?_⟩
  · unfold cmpNat; split
    · simp
    · split <;> simp
  · unfold cmpNat
    by_cases h1 : x < y
    · rw [if_pos h1, if_neg (by omega), if_pos h1]; rfl
    · by_cases h2 : y < x
      · rw [if_pos h2, if_neg h1, if_pos h2]
      · rw [if_neg h2, if_neg h1, if_neg h1, if_neg h2]; rfl
  · unfold cmpNat
    intro ha hb
    have h1 : ¬ y < x := fun e => by rw [if_neg (by omega), if_pos e] at ha; omega
    have h2 : ¬ z < y := fun e => by rw [if_neg (by omega), if_pos e] at hb; omega
    by_cases h3 : x < y
    · rw [if_pos (show x < z by omega), if_pos h3]
      by_cases h4 : y < z
      · rw [if_pos h4]; rfl
      · rw [if_neg h4, if_neg h2]; rfl
    · by_cases h4 : y < z
      · rw [if_pos (show x < z by omega), if_neg h3, if_neg h1, if_pos h4]; rfl
      · rw [if_neg (show ¬ x < z by omega), if_neg (show ¬ z < x by omega), if_neg h3, if_neg h1, if_neg h4, if_neg h2]; rfl
theorem cmpNat_zero {m n : Nat} : cmpNat m n = 0 ↔ m = n := by
  unfold cmpNat
  constructor
  · intro h
    rcases Nat.lt_trichotomy m n with k | k | k
    · rw [if_pos k] at h; omega
    · exact k
    · rw [if_neg (by omega), if_pos k] at h; omega
  · rintro rfl; rw [if_neg (by omega), if_neg (by omega)]

def listLex {α : Type} (c : α → α → Int) : List α → List α → Int
  | [], [] => 0
  | [], _ :: _ => -1
  | _ :: _, [] => 1
  | a :: x, b :: y => if c a b ≠ 0 then c a b else listLex c x y
theorem Lin.list {α : Type} {c : α → α → Int} (h : Lin c) : Lin (listLex c) := by
  have val : ∀ x y, listLex c x y = -1 ∨ listLex c x y = 0 ∨ listLex c x y = 1 := by
    intro x
    induction x with
    | nil => intro y; cases y <;> simp [listLex]
    | cons a x ih =>
      intro y
      cases y with
      | nil => simp [listLex]
      | cons b y =>
        rw [listLex]; split
        · exact h.val a b
        · exact ih y
  have swap : ∀ x y, listLex c y x = - listLex c x y := by
    intro x
    induction x with
    | nil => intro y; cases y <;> simp [listLex]
    | cons a x ih =>
      intro y
      cases y with
      | nil => simp [listLex]
      | cons b y =>
        rw [listLex, listLex]
        have h1 := h.swap a b
        by_cases e : c a b = 0
        · rw [if_neg (by simp [h1, e]), if_neg (by simp [e]), ih y]
        · rw [if_pos (by rw [h1]; omega), if_pos e, h1]
  refine ⟨val, swap, ?_⟩
  intro x
  induction x with
  | nil =>
    intro y z ha hb
    cases y with
    | nil =>
      have := val [] z
      show listLex c [] z = min (listLex c [] []) (listLex c [] z)
      rw [show listLex c ([] : List α) [] = 0 from rfl]; omega
    | cons b y =>
      cases z with
      | nil => rw [show listLex c (b :: y) [] = 1 from rfl] at hb; omega
      | cons d z =>
        have := val (b :: y) (d :: z)
        show (-1 : Int) = min (-1) _
        omega
  | cons a x ih =>
    intro y z ha hb
    cases y with
    | nil => rw [show listLex c (a :: x) [] = 1 from rfl] at ha; omega
    | cons b y =>
      cases z with
      | nil => rw [show listLex c (b :: y) [] = 1 from rfl] at hb; omega
      | cons d z =>
        rw [listLex] at ha hb ⊢
        rw [listLex, listLex]
        have v1 := h.val a b
        have v2 := h.val b d
        have v3 := h.val a d
        have k1 := val x y
        have k2 := val y z
        by_cases e1 : c a b = 0
        · rw [if_neg (by simp [e1])] at ha
          rw [if_neg (show ¬ c a b ≠ 0 by simp [e1])]
          by_cases e2 : c b d = 0
          · rw [if_neg (by simp [e2])] at hb
            rw [if_neg (show ¬ c b d ≠ 0 by simp [e2])]
            have := h.chain a b d (by omega) (by omega)
            rw [if_neg (by simp [this, e1, e2])]
            exact ih y z ha hb
          · rw [if_pos e2] at hb
            rw [if_pos e2]
            have := h.chain a b d (by omega) (by omega)
            rw [if_pos (by rw [this]; omega), this]
            omega
        · rw [if_pos e1] at ha
          rw [if_pos (show c a b ≠ 0 from e1)]
          by_cases e2 : c b d = 0
          · rw [if_neg (by simp [e2])] at hb
            rw [if_neg (show ¬ c b d ≠ 0 by simp [e2])]
            have := h.chain a b d (by omega) (by omega)
            rw [if_pos (by rw [this]; omega), this]
            omega
          · rw [if_pos e2] at hb
            rw [if_pos e2]
            have := h.chain a b d (by omega) (by omega)
            rw [if_pos (by rw [this]; omega), this]
theorem listLex_zero {α : Type} {c : α → α → Int} (h : ∀ a b, c a b = 0 ↔ a = b) : ∀ x y, listLex c x y = 0 ↔ x = y
  | [], [] => by simp [listLex]
  | [], _ :: _ => by simp [listLex]
  | _ :: _, [] => by simp [listLex]
  | a :: x, b :: y => by
    rw [listLex]
    by_cases e : c a b = 0
    · rw [if_neg (by simp [e]), listLex_zero h x y]
      have := (h a b).1 e
      subst this
      simp
    · rw [if_pos e]
      constructor
      · intro k; exact absurd k e
      · intro k; simp at k; exact (h a b).2 k.1

def cmpByte (a b : UInt8) : Int := cmpNat a.toNat b.toNat
theorem lin_byte : Lin cmpByte := lin_nat.pull UInt8.toNat
theorem cmpByte_zero (a b : UInt8) : cmpByte a b = 0 ↔ a = b := by unfold cmpByte; rw [cmpNat_zero, UInt8.toNat_inj]
theorem text_eq : ∀ x y : Bs, cmpText x y = listLex cmpByte x y
  | [], [] => by simp [listLex, cmpText]
  | [], _ :: _ => by simp [listLex, cmpText, less]
  | _ :: _, [] => by simp [listLex, cmpText, less]
  | a :: x, b :: y => by
    rw [listLex, ← text_eq x y]
    unfold cmpText
    rw [less]
    by_cases e : a = b
    · subst e
      have : cmpByte a a = 0 := lin_byte.self a
      simp [this]
    · have hne : ¬ cmpByte a b = 0 := fun k => e ((cmpByte_zero a b).1 k)
      rw [if_pos hne]
      unfold cmpByte cmpNat
      by_cases h1 : a < b
      · have h1' : a.toNat < b.toNat := UInt8.lt_iff_toNat_lt.1 h1
        simp [h1, e, h1']
      · have h1' : ¬ a.toNat < b.toNat := fun k => h1 (UInt8.lt_iff_toNat_lt.2 k)
        have h2' : b.toNat < a.toNat := by
          have : a.toNat ≠ b.toNat := fun k => e (UInt8.toNat_inj.1 k)
          omega
        simp [h1, e, h1', h2']
theorem lin_text : Lin cmpText := (Lin.list lin_byte).congr text_eq
theorem text_zero (x y : Bs) : cmpText x y = 0 ↔ x = y := by rw [text_eq]; exact listLex_zero cmpByte_zero x y
theorem text_less {x y : Bs} (h : x ≠ y) : (if less x y then (-1 : Int) else 1) = cmpText x y := by unfold cmpText; rw [if_neg h]

theorem int_eq (x y : Bs) : cmpInt x y = lex (fun x y : Bs => cmpNat x.length y.length) cmpText x y := by
  unfold cmpInt lex cmpNat cmpText
  by_cases e : x = y
  · subst e; simp
  · rw [if_neg e]
    by_cases h1 : x.length < y.length
    · simp [h1]
    · by_cases h2 : y.length < x.length
      · simp [h1, h2]
      · simp [h1, h2, e]
theorem lin_int : Lin cmpInt := Lin.congr (Lin.lex (lin_nat.pull List.length) lin_text) int_eq
theorem int_zero (x y : Bs) : cmpInt x y = 0 ↔ x = y := by
  constructor
  · intro h
    rw [int_eq] at h
    unfold lex at h
    split at h
    · contradiction
    · exact (text_zero x y).1 h
  · rintro rfl; exact lin_int.self x

/-- numbers ahead of others -/
def rank (x : Bs) : Nat := if isNum x then 0 else 1
theorem id_eq (x y : Bs) : cmpId x y = lex (fun x y => cmpNat (rank x) (rank y)) (lex (fun x y : Bs => cmpNat (if isNum x then x.length else 0) (if isNum y then y.length else 0)) cmpText) x y := by
  unfold cmpId
  by_cases e : x = y
  · subst e
    rw [if_pos rfl]
    exact ((lin_nat.pull rank).lex ((lin_nat.pull (fun x : Bs => if isNum x then x.length else 0)).lex lin_text)).self x |>.symm
  · rw [if_neg e]
    unfold lex rank
    cases hx : isNum x <;> cases hy : isNum y <;> simp [hx, hy, cmpNat, text_less e]
    · by_cases h1 : x.length < y.length
      · simp [h1]
      · by_cases h2 : y.length < x.length <;> simp [h1, h2]
theorem lin_id : Lin cmpId := Lin.congr ((lin_nat.pull rank).lex ((lin_nat.pull (fun x : Bs => if isNum x then x.length else 0)).lex lin_text)) id_eq
theorem id_zero (x y : Bs) : cmpId x y = 0 ↔ x = y := by
  constructor
  · intro h
    rw [id_eq] at h
    unfold lex at h
    split at h
    · contradiction
    · split at h
      · contradiction
      · exact (text_zero x y).1 h
  · rintro rfl; exact lin_id.self x
theorem ids_eq : ∀ x y, cmpIds x y = listLex cmpId x y
  | [], [] => rfl
  | [], _ :: _ => rfl
  | _ :: _, [] => rfl
  | a :: x, b :: y => by
    rw [cmpIds, listLex, ids_eq x y]
    by_cases e : a = b
    · rw [if_pos e, if_neg (by simp [(id_zero a b).2 e])]
    · rw [if_neg e, if_pos (fun k => e ((id_zero a b).1 k))]
theorem lin_ids : Lin cmpIds := (Lin.list lin_id).congr ids_eq
theorem cmpIds_zero (x y : List Bs) : cmpIds x y = 0 ↔ x = y := by rw [ids_eq]; exact listLex_zero id_zero x y

theorem pre_eq (x y : Bs) : cmpPre x y = lex (fun x y : Bs => cmpNat (if x = [] then 1 else 0) (if y = [] then 1 else 0)) (fun x y => cmpIds (ids (x.drop 1)) (ids (y.drop 1))) x y := by
  unfold cmpPre lex
  by_cases e : x = y
  · subst e
    rw [if_pos rfl, if_neg (by simp [(lin_nat.self _)])]
    exact (lin_ids.self _).symm
  · rw [if_neg e]
    by_cases h1 : x = []
    · have h2 : ¬ y = [] := fun k => e (h1.trans k.symm)
      simp [h1, h2, cmpNat]
    · by_cases h2 : y = []
      · simp [h1, h2, cmpNat]
      · simp [h1, h2, cmpNat]
theorem lin_pre : Lin cmpPre := Lin.congr ((lin_nat.pull (fun x : Bs => if x = [] then 1 else 0)).lex (lin_ids.pull (fun x : Bs => ids (x.drop 1)))) pre_eq

theorem ver_eq (a b : Ver) : cmpVer a b = lex (fun a b => cmpInt a.major b.major) (lex (fun a b => cmpInt a.minor b.minor) (lex (fun a b => cmpInt a.patch b.patch) (fun a b => cmpPre a.pre b.pre))) a b := rfl
theorem lin_ver : Lin cmpVer := Lin.congr ((lin_int.pull Ver.major).lex ((lin_int.pull Ver.minor).lex ((lin_int.pull Ver.patch).lex (lin_pre.pull Ver.pre)))) ver_eq

def cmpOpt : Option Ver → Option Ver → Int
  | none, none => 0
  | none, some _ => -1
  | some _, none => 1
  | some a, some b => cmpVer a b
theorem lin_opt : Lin cmpOpt := by
  refine ⟨fun x y => ?_, fun x y => ?_, fun x y z => ?_⟩
  · cases x <;> cases y <;> simp [cmpOpt]
    exact lin_ver.val _ _
  · cases x <;> cases y <;> simp [cmpOpt]
    exact lin_ver.swap _ _
  · cases x with
    | none =>
      cases y with
      | none =>
        cases z with
        | none => simp [cmpOpt]
        | some d => intro _ _; rfl
      | some b =>
        cases z with
        | none => simp [cmpOpt]
        | some d => have := lin_ver.val b d; simp only [cmpOpt]; omega
    | some a =>
      cases y with
      | none => simp [cmpOpt]
      | some b =>
        cases z with
        | none => simp [cmpOpt]
        | some d => exact lin_ver.chain a b d
theorem compare_opt (x y : Bs) : compare x y = cmpOpt (parse x) (parse y) := by unfold compare cmpOpt; rfl
theorem lin_compare : Lin compare := Lin.congr (lin_opt.pull parse) compare_opt

theorem ids_inj : ∀ x y : Bs, ids x = ids y → x = y := by
  have ne : ∀ x, ids x ≠ [] := by
    intro x
    cases x with
    | nil => simp [ids]
    | cons c r =>
      rw [ids]; split
      · simp
      · split <;> simp
  intro x
  induction x with
  | nil =>
    intro y h
    cases y with
    | nil => rfl
    | cons c r =>
      rw [ids, ids] at h
      split at h
      · simp at h; exact absurd h (ne r)
      · split at h <;> simp at h
  | cons c r ih =>
    intro y h
    cases y with
    | nil =>
      rw [ids, ids] at h
      split at h
      · simp at h; exact absurd h (ne r)
      · split at h <;> simp at h
    | cons d s =>
      rw [ids, ids] at h
      by_cases h1 : c = 46
      · by_cases h2 : d = 46
        · rw [if_pos h1, if_pos h2] at h
          simp at h
          rw [ih s h, h1, h2]
        · rw [if_pos h1, if_neg h2] at h
          split at h <;> simp at h
      · by_cases h2 : d = 46
        · rw [if_neg h1, if_pos h2] at h
          split at h <;> simp at h
        · rw [if_neg h1, if_neg h2] at h
          cases hr : ids r with
          | nil => exact absurd hr (ne r)
          | cons a as =>
            cases hs : ids s with
            | nil => exact absurd hs (ne s)
            | cons b bs =>
              rw [hr, hs] at h
              simp at h
              have : ids r = ids s := by rw [hr, hs, h.1.2, h.2]
              rw [ih s this, h.1.1]

end Go.Proofs.Ytienkoadkhcghaa.Sem
