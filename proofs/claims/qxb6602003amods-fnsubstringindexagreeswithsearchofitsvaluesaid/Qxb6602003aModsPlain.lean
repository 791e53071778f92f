import Derived.Laws.BitsAllLaws
namespace Go.Proofs.Qxb6602003aMods

/-- 's' stands in 'v' at place p. -/
def MatchAt (v s : ByteArray) (p : Nat) : Prop := p + s.size ≤ v.size ∧ ∀ i, i < s.size → v.data[p + i]? = s.data[i]?

/-- The first k bytes of 's' end in 'v' at place q. -/
def EndsAt (v s : ByteArray) (k q : Nat) : Prop := k ≤ q + 1 ∧ q < v.size ∧ ∀ j, j < k → v.data[q + 1 - k + j]? = s.data[j]?

theorem ends_succ (v s : ByteArray) (k q : Nat) (hk : 1 ≤ k) : EndsAt v s (k + 1) (q + 1) ↔ EndsAt v s k q ∧ q + 1 < v.size ∧ v.data[q + 1]? = s.data[k]? := by
  constructor
  · rintro ⟨h1, h2, h3⟩
    refine ⟨⟨by omega, by omega, fun j hj => ?_⟩, h2, ?_⟩
    · have := h3 j (by omega)
      rw [show q + 1 + 1 - (k + 1) + j = q + 1 - k + j from by omega] at this
      exact this
    · have := h3 k (by omega)
      rw [show q + 1 + 1 - (k + 1) + k = q + 1 from by omega] at this
      exact this
  · rintro ⟨⟨h1, h2, h3⟩, h4, h5⟩
    refine ⟨by omega, h4, fun j hj => ?_⟩
    by_cases e : j = k
    · subst e; rw [show q + 1 + 1 - (j + 1) + j = q + 1 from by omega]; exact h5
    · rw [show q + 1 + 1 - (k + 1) + j = q + 1 - k + j from by omega]; exact h3 j (by omega)

theorem ends_zero (v s : ByteArray) (k : Nat) (hk : 1 ≤ k) : ¬ EndsAt v s (k + 1) 0 := fun h => by have := h.1; omega

theorem ends_one (v s : ByteArray) (q : Nat) : EndsAt v s 1 q ↔ q < v.size ∧ v.data[q]? = s.data[0]? := by
  constructor
  · rintro ⟨h1, h2, h3⟩; exact ⟨h2, by simpa using h3 0 (by omega)⟩
  · rintro ⟨h1, h2⟩
    refine ⟨by omega, h1, fun j hj => ?_⟩
    obtain rfl : j = 0 := by omega
    simpa using h2

theorem ends_of_match {v s : ByteArray} {p k : Nat} (h : MatchAt v s p) (h1 : 1 ≤ k) (h2 : k ≤ s.size) : EndsAt v s k (p + k - 1) := by
  refine ⟨by omega, by have := h.1; omega, fun j hj => ?_⟩
  rw [show p + k - 1 + 1 - k + j = p + j from by omega]
  exact h.2 j (by omega)

theorem match_of_ends {v s : ByteArray} {q : Nat} (h : EndsAt v s s.size q) : MatchAt v s (q + 1 - s.size) := by
  refine ⟨by have := h.1; have := h.2.1; omega, fun i hi => h.2.2 i hi⟩

/-- The bit that comes over into word t. -/
def carryOf (F : Nat → Nat) : Nat → Nat
  | 0 => 0
  | t + 1 => F t / 9223372036854775808

/-- Word t behind a round. -/
def newW (F A : Nat → Nat) (t : Nat) : Nat := (F t * 2 % 18446744073709551616 ||| carryOf F t) &&& A t

theorem carry_lt {F : Nat → Nat} (hF : ∀ t, F t < 18446744073709551616) (t : Nat) : carryOf F t < 2 := by
  cases t with
  | zero => simp [carryOf]
  | succ t => have := hF t; simp only [carryOf]; omega

theorem newW_lt {F A : Nat → Nat} (hA : ∀ t, A t < 18446744073709551616) (t : Nat) : newW F A t < 18446744073709551616 :=
  Nat.lt_of_le_of_lt Nat.and_le_right (hA t)

theorem spell_new (f c a : Nat) (hc : c < 2) (ha : a < 18446744073709551616) :
    bits .and .u64 (bits .or .u64 (IntKind.u64.wrap ((f : Int) * 2)) (c : Int)) (a : Int) = (((f * 2 % 18446744073709551616 ||| c) &&& a : Nat) : Int) := by
  have e1 : IntKind.u64.wrap ((f : Int) * 2) = ((f * 2 % 18446744073709551616 : Nat) : Int) := by
    rw [IntKind.wrap_u64]; omega
  have h1 : f * 2 % 18446744073709551616 < 18446744073709551616 := Nat.mod_lt _ (by decide)
  have h2 : f * 2 % 18446744073709551616 ||| c < 18446744073709551616 := Nat.or_lt_two_pow (n := 64) h1 (by omega)
  rw [e1, u64_or_nat _ _ h1 (by omega), u64_and_nat _ _ h2 ha]

theorem spell_or (a b : Nat) (ha : a < 18446744073709551616) (hb : b < 18446744073709551616) : bits .or .u64 (a : Int) (b : Int) = ((a ||| b : Nat) : Int) := u64_or_nat _ _ ha hb

theorem top_bit (n : Nat) (h : n < 18446744073709551616) : n / 9223372036854775808 = if n.testBit 63 then 1 else 0 := by
  have : n.testBit 63 = decide (n / 2 ^ 63 % 2 = 1) := Nat.testBit_eq_decide_div_mod_eq
  rw [this]
  have h2 : n / 9223372036854775808 < 2 := by omega
  simp only [decide_eq_true_eq]
  have e : (2 : Nat) ^ 63 = 9223372036854775808 := by decide
  rw [e]
  split <;> omega

theorem testBit_double (f t : Nat) (ht : t < 64) : (f * 2 % 18446744073709551616).testBit t = (decide (1 ≤ t) && f.testBit (t - 1)) := by
  rw [show (18446744073709551616 : Nat) = 2 ^ 64 from by decide, Nat.testBit_mod_two_pow, show f * 2 = f * 2 ^ 1 from by simp, Nat.testBit_mul_two_pow]
  simp [ht]

/-- Bit q of the new words: bit q - 1 of the old, and bit q of the row. -/
theorem newW_bit {F A : Nat → Nat} (hF : ∀ t, F t < 18446744073709551616) (q : Nat) :
    (newW F A ((q + 1) / 64)).testBit ((q + 1) % 64) = ((F (q / 64)).testBit (q % 64) && (A ((q + 1) / 64)).testBit ((q + 1) % 64)) := by
  unfold newW
  rw [Nat.testBit_and, Nat.testBit_or, testBit_double _ _ (by omega)]
  congr 1
  by_cases h : (q + 1) % 64 = 0
  · have e1 : (q + 1) / 64 = q / 64 + 1 := by omega
    have e2 : q % 64 = 63 := by omega
    rw [h, e1, e2]
    simp only [carryOf, top_bit _ (hF _)]
    cases hb : (F (q / 64)).testBit 63 <;> simp
  · have e1 : (q + 1) / 64 = q / 64 := by omega
    have e2 : (q + 1) % 64 - 1 = q % 64 := by omega
    rw [e1, e2]
    have hc : (carryOf F (q / 64)).testBit ((q + 1) % 64) = false := by
      refine Nat.testBit_lt_two_pow ?_
      have := carry_lt hF (q / 64)
      have h2 : 2 ^ 1 ≤ 2 ^ ((q + 1) % 64) := Nat.pow_le_pow_right (by omega) (by omega)
      omega
    rw [hc]
    have : 1 ≤ (q + 1) % 64 := by omega
    simp [this]

theorem newW_bit0 (F A : Nat → Nat) : (newW F A 0).testBit 0 = false := by
  unfold newW
  rw [Nat.testBit_and, Nat.testBit_or, testBit_double _ _ (by omega)]
  simp [carryOf]

theorem zero_iff_bits (x : Nat) (h : x < 18446744073709551616) : x = 0 ↔ ∀ t, t < 64 → x.testBit t = false := by
  constructor
  · rintro rfl t _; simp
  · intro hb
    refine Nat.eq_of_testBit_eq fun i => ?_
    rw [Nat.zero_testBit]
    by_cases hi : i < 64
    · exact hb i hi
    · refine Nat.testBit_lt_two_pow (Nat.lt_of_lt_of_le h ?_)
      rw [show (18446744073709551616 : Nat) = 2 ^ 64 from by decide]
      exact Nat.pow_le_pow_right (by omega) (by omega)

/-- All words below j put together. -/
def orTo (G : Nat → Nat) : Nat → Nat
  | 0 => 0
  | j + 1 => orTo G j ||| G j

theorem orTo_lt {G : Nat → Nat} (h : ∀ t, G t < 18446744073709551616) : ∀ j, orTo G j < 18446744073709551616
  | 0 => by simp [orTo]
  | j + 1 => Nat.or_lt_two_pow (n := 64) (orTo_lt h j) (h j)

theorem orTo_zero {G : Nat → Nat} : ∀ j, orTo G j = 0 ↔ ∀ t, t < j → G t = 0
  | 0 => by simp [orTo]
  | j + 1 => by
    simp only [orTo, Nat.or_eq_zero_iff, orTo_zero j]
    constructor
    · rintro ⟨h1, h2⟩ t ht
      by_cases e : t = j
      · subst e; exact h2
      · exact h1 t (by omega)
    · intro h; exact ⟨fun t ht => h t (by omega), h j (by omega)⟩

/-- What the words say: place q's bit tells whether the first k bytes end at q. -/
def Says (v s : ByteArray) (ws : Nat) (F : Nat → Nat) (k : Nat) : Prop := ∀ q, q < 64 * ws → ((F (q / 64)).testBit (q % 64) = true ↔ EndsAt v s k q)

theorem says_step {v s : ByteArray} {ws k : Nat} {F A G : Nat → Nat} (hF : ∀ t, F t < 18446744073709551616) (hk : 1 ≤ k) (hs : Says v s ws F k)
    (hA : ∀ q, q < 64 * ws → ((A (q / 64)).testBit (q % 64) = true ↔ q < v.size ∧ v.data[q]? = s.data[k]?))
    (hG : ∀ t, t < ws → G t = newW F A t) : Says v s ws G (k + 1) := by
  intro q hq
  rw [hG (q / 64) (by omega)]
  cases q with
  | zero =>
    have := newW_bit0 F A
    simp only [Nat.zero_div, Nat.zero_mod, this]
    constructor
    · intro h; cases h
    · intro h; exact absurd h (ends_zero v s k hk)
  | succ q =>
    rw [newW_bit hF, Bool.and_eq_true, hs q (by omega), hA (q + 1) hq, ends_succ v s k q hk]

/-- No word holds a bit: nowhere do the bytes end. -/
theorem says_none {v s : ByteArray} {ws k : Nat} {G : Nat → Nat} (hv : v.size ≤ 64 * ws) (h : Says v s ws G k) (h0 : ∀ t, t < ws → G t = 0) : ¬ ∃ q, EndsAt v s k q := by
  rintro ⟨q, hq⟩
  have hlt : q < 64 * ws := by have := hq.2.1; omega
  have := (h q hlt).2 hq
  rw [h0 _ (by omega)] at this
  simp at this

theorem says_some {v s : ByteArray} {ws k : Nat} {G : Nat → Nat} (hG : ∀ t, G t < 18446744073709551616) (h : Says v s ws G k) (h0 : ¬ ∀ t, t < ws → G t = 0) : ∃ q, EndsAt v s k q := by
  refine Classical.byContradiction fun hn => h0 fun t ht => ?_
  rw [zero_iff_bits _ (hG t)]
  intro b hb
  cases hx : (G t).testBit b with
  | false => rfl
  | true =>
    refine absurd ⟨64 * t + b, (h (64 * t + b) (by omega)).1 ?_⟩ hn
    rw [show (64 * t + b) / 64 = t from by omega, show (64 * t + b) % 64 = b from by omega]
    exact hx
end Go.Proofs.Qxb6602003aMods
