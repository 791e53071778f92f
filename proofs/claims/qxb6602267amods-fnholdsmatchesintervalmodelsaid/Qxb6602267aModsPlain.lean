import Derived.Laws.Strings
namespace Go.Proofs.Qxb6602267aMods
set_option linter.unusedVariables false

/-- Go's order on strings, byte by byte. -/
def bl (a b : List UInt8) : Bool := Op.bytesLess a b
def ble (a b : List UInt8) : Bool := bl a b || a == b

theorem bl_nil (a : List UInt8) : bl a [] = false := by cases a <;> rfl
theorem bl_nil_cons (b : UInt8) (y : List UInt8) : bl [] (b :: y) = true := rfl
theorem bl_cons (a b : UInt8) (x y : List UInt8) : bl (a :: x) (b :: y) = (decide (a < b) || (a == b && bl x y)) := rfl

theorem bl_irrefl : ∀ a : List UInt8, bl a a = false
  | [] => rfl
  | a :: x => by rw [bl_cons, bl_irrefl x]; simp [UInt8.lt_irrefl]

theorem bl_total : ∀ a b : List UInt8, bl a b = false → a ≠ b → bl b a = true
  | [], [], _, h => absurd rfl h
  | [], _ :: _, h, _ => by cases h
  | _ :: _, [], _, _ => rfl
  | a :: x, b :: y, h, hne => by
    rw [bl_cons] at h ⊢
    simp only [Bool.or_eq_false_iff, decide_eq_false_iff_not, Bool.and_eq_false_iff] at h
    by_cases e : a = b
    · subst e
      have h2 : bl x y = false := by
        rcases h.2 with h3 | h3
        · simp at h3
        · exact h3
      have := bl_total x y h2 (fun e => hne (by rw [e]))
      simp [this]
    · have : b < a := by
        have h1 := h.1
        rw [UInt8.lt_iff_toNat_lt] at h1 ⊢
        have : a.toNat ≠ b.toNat := fun e2 => e (UInt8.toNat_inj.mp e2)
        omega
      simp [this]

theorem bl_asymm : ∀ a b : List UInt8, bl a b = true → bl b a = false
  | [], [], h => by cases h
  | [], _ :: _, _ => rfl
  | _ :: _, [], h => by cases h
  | a :: x, b :: y, h => by
    rw [bl_cons] at h ⊢
    simp only [Bool.or_eq_true, decide_eq_true_eq, Bool.and_eq_true, beq_iff_eq] at h
    rcases h with h | ⟨e, h⟩
    · have h1 : ¬ b < a := by rw [UInt8.lt_iff_toNat_lt] at h ⊢; omega
      have h2 : ¬ b = a := fun e => by rw [e, UInt8.lt_iff_toNat_lt] at h; omega
      simp [h1, h2]
    · subst e
      simp [bl_asymm x y h, UInt8.lt_irrefl]

/-- a is below b just where a and a zero byte are at most b. -/
theorem succ_le : ∀ a b : List UInt8, ble (a ++ [0]) b = bl a b
  | [], [] => rfl
  | [], b :: y => by
    rw [bl_nil_cons]
    unfold ble
    show (bl (0 :: []) (b :: y) || (0 :: [] : List UInt8) == b :: y) = true
    rw [bl_cons]
    by_cases h : (0 : UInt8) < b
    · simp [h]
    · have : b = 0 := by
        rw [UInt8.lt_iff_toNat_lt] at h
        have h2 : b.toNat = 0 := by simp at h; omega
        exact UInt8.toNat_inj.mp (by rw [h2]; rfl)
      subst this
      cases y with
      | nil => simp [bl_nil]
      | cons c z => simp [bl_nil_cons]
  | a :: x, [] => by
    unfold ble
    rw [bl_nil, bl_nil]; simp
  | a :: x, b :: y => by
    have ih := succ_le x y
    unfold ble at ih ⊢
    show (bl (a :: (x ++ [0])) (b :: y) || (a :: (x ++ [0]) : List UInt8) == b :: y) = _
    rw [bl_cons, bl_cons, ← ih]
    by_cases h : a < b
    · simp [h]
    · by_cases e : a = b
      · subst e; simp [UInt8.lt_irrefl]
      · have e2 : (a == b) = false := by simpa using e
        simp [h, e2]

/-- 'holds' -/
def holdsB (s e k r : List UInt8) : Bool :=
  if e = [] then decide (r = []) && k == s
  else if bl k s then false
  else if e ≠ [0] ∧ bl k e = false then false
  else if r = [] then true
  else if r = [0] then e == [0]
  else e == [0] || ble r e

theorem hB_nil0 {s e k r : List UInt8} (he : e = []) (hr : r = []) : holdsB s e k r = (k == s) := by simp [holdsB, he, hr]
theorem hB_nil1 {s e k r : List UInt8} (he : e = []) (hr : r ≠ []) : holdsB s e k r = false := by simp [holdsB, he, hr]
theorem hB_lt {s e k r : List UInt8} (he : e ≠ []) (hk : bl k s = true) : holdsB s e k r = false := by simp [holdsB, he, hk]
theorem hB_zero {s e k r : List UInt8} (he : e = [0]) (hk : bl k s = false) : holdsB s e k r = true := by simp [holdsB, he, hk]
theorem hB_ge {s e k r : List UInt8} (he : e ≠ []) (h0 : e ≠ [0]) (hk : bl k s = false) (hke : bl k e = false) : holdsB s e k r = false := by simp [holdsB, he, h0, hk, hke]
theorem hB_r0 {s e k r : List UInt8} (he : e ≠ []) (h0 : e ≠ [0]) (hk : bl k s = false) (hke : bl k e = true) (hr : r = []) : holdsB s e k r = true := by simp [holdsB, he, hk, hke, hr]
theorem hB_r1 {s e k r : List UInt8} (he : e ≠ []) (h0 : e ≠ [0]) (hk : bl k s = false) (hke : bl k e = true) (hr : r = [0]) : holdsB s e k r = false := by simp [holdsB, he, h0, hk, hke, hr]
theorem hB_r2 {s e k r : List UInt8} (he : e ≠ []) (h0 : e ≠ [0]) (hk : bl k s = false) (hke : bl k e = true) (hr : r ≠ []) (hr0 : r ≠ [0]) : holdsB s e k r = ble r e := by
  have e0 : (e == [0]) = false := by simpa using h0
  simp [holdsB, he, h0, hk, hke, hr, hr0]

/-- The model. -/
def modelB (s e k r : List UInt8) : Bool :=
  if e = [] then (if r = [] then (ble s k && bl k (s ++ [0])) && ble (k ++ [0]) (s ++ [0]) else false)
  else if e = [0] then ble s k
  else (ble s k && bl k e) && (if r = [] then ble (k ++ [0]) e else if r = [0] then false else ble r e)

theorem mB_nn {s e k r : List UInt8} (he : e = []) (hr : r = []) : modelB s e k r = ((ble s k && bl k (s ++ [0])) && ble (k ++ [0]) (s ++ [0])) := by simp [modelB, he, hr]
theorem mB_ne {s e k r : List UInt8} (he : e = []) (hr : r ≠ []) : modelB s e k r = false := by simp [modelB, he, hr]
theorem mB_z {s e k r : List UInt8} (he : e = [0]) : modelB s e k r = ble s k := by simp [modelB, he]
theorem mB_en {s e k r : List UInt8} (he : e ≠ []) (h0 : e ≠ [0]) (hr : r = []) : modelB s e k r = ((ble s k && bl k e) && ble (k ++ [0]) e) := by simp [modelB, he, h0, hr]
theorem mB_ez {s e k r : List UInt8} (he : e ≠ []) (h0 : e ≠ [0]) (hr : r = [0]) : modelB s e k r = false := by simp [modelB, he, h0, hr]
theorem mB_ee {s e k r : List UInt8} (he : e ≠ []) (h0 : e ≠ [0]) (hr : r ≠ []) (hr0 : r ≠ [0]) : modelB s e k r = ((ble s k && bl k e) && ble r e) := by simp [modelB, he, h0, hr, hr0]

theorem ble_iff (a b : List UInt8) : ble a b = !bl b a := by
  unfold ble
  by_cases e : a = b
  · subst e; simp [bl_irrefl]
  · cases h : bl a b with
    | true => simp [bl_asymm a b h]
    | false => simp [bl_total a b h e, e]

theorem between (s k : List UInt8) (h1 : bl k s = false) (h2 : bl k (s ++ [0]) = true) : k = s := by
  refine Classical.byContradiction fun hne => ?_
  have h3 := bl_total k s h1 hne
  rw [← succ_le, ble_iff, h2] at h3
  cases h3

theorem bl_succ (s : List UInt8) : bl s (s ++ [0]) = true := by
  have := succ_le s (s ++ [0])
  rw [← this]; unfold ble; simp

theorem holds_model (s e k r : List UInt8) : holdsB s e k r = modelB s e k r := by
  unfold holdsB modelB
  by_cases he : e = []
  · rw [if_pos he, if_pos he]
    by_cases hr : r = []
    · rw [if_pos hr]
      simp only [hr, decide_true, Bool.true_and]
      rw [ble_iff s k]
      by_cases hk : k = s
      · subst hk
        simp [bl_irrefl, bl_succ, ble]
      · have e1 : (k == s) = false := by simpa using hk
        rw [e1]
        cases h1 : bl k s with
        | true => simp
        | false =>
          cases h2 : bl k (s ++ [0]) with
          | false => simp
          | true => exact absurd (between s k h1 h2) hk
    · rw [if_neg hr]; simp [hr]
  · rw [if_neg he, if_neg he]
    by_cases h0 : e = [0]
    · rw [if_pos h0]
      rw [ble_iff s k]
      cases h1 : bl k s with
      | true => simp
      | false =>
        simp only [h0, ne_eq, not_true_eq_false, false_and, if_false, Bool.false_eq_true, if_false, Bool.not_false]
        by_cases hr : r = []
        · simp [hr]
        · simp [hr]
    · rw [if_neg h0, ble_iff s k]
      cases h1 : bl k s with
      | true => simp
      | false =>
        cases h2 : bl k e with
        | false => simp [h0]
        | true =>
          have e0 : (e == [0]) = false := by simpa using h0
          by_cases hr : r = []
          · simp [hr, h0, succ_le, h2]
          · by_cases hr0 : r = [0]
            · simp [hr0, h0]
            · simp [hr, hr0, h0]

/-- The law of the range itself. -/
theorem holds_self (k r : List UInt8) : holdsB k r k r = (decide (r = []) || r == [0] || bl k r) := by
  unfold holdsB
  by_cases hr : r = []
  · simp [hr]
  · by_cases h0 : r = [0]
    · simp [h0, bl_irrefl]
    · cases h2 : bl k r with
      | false => simp [hr, h0, bl_irrefl]
      | true => simp [hr, h0, bl_irrefl, ble]
end Go.Proofs.Qxb6602267aMods
