import Derived.Laws.BitsAllLaws
import Derived.Laws.Bits64
namespace Go.Proofs.Qxb6602003aMods

/-- Behind k bytes of 'v': u rows are in use; R b: the row of byte b, counted from 1. -/
structure RowsOf (v : ByteArray) (k u : Nat) (R : Nat → Nat) : Prop where
  ule : u ≤ k
  rle : ∀ b, R b ≤ u
  no : ∀ b, R b = 0 → ∀ q (h : q < v.size), q < k → v[q].toNat ≠ b
  yes : ∀ b, R b ≠ 0 → ∃ q, ∃ h : q < v.size, q < k ∧ v[q].toNat = b
  inj : ∀ b c, R b ≠ 0 → R b = R c → b = c

theorem rows_start (v : ByteArray) : RowsOf v 0 0 (fun _ => 0) :=
  ⟨Nat.le_refl _, fun _ => Nat.le_refl _, fun _ _ _ _ h => by omega, fun _ h => absurd rfl h, fun _ _ h => absurd rfl h⟩

theorem rows_old {v : ByteArray} {k u : Nat} {R : Nat → Nat} (h : RowsOf v k u R) (hk : k < v.size) (hr : R (v[k].toNat) ≠ 0) : RowsOf v (k + 1) u R where
  ule := by have := h.ule; omega
  rle := h.rle
  no b hb q hq hqk := by
    by_cases e : q = k
    · subst e; intro e2; rw [e2] at hr; exact hr hb
    · exact h.no b hb q hq (by omega)
  yes b hb := by
    obtain ⟨q, h1, h2, h3⟩ := h.yes b hb
    exact ⟨q, h1, by omega, h3⟩
  inj := h.inj

theorem rows_new {v : ByteArray} {k u : Nat} {R : Nat → Nat} (h : RowsOf v k u R) (hk : k < v.size) (hr : R (v[k].toNat) = 0) :
    RowsOf v (k + 1) (u + 1) (fun b => if b = v[k].toNat then u + 1 else R b) where
  ule := by have := h.ule; omega
  rle b := by
    show (if b = v[k].toNat then u + 1 else R b) ≤ u + 1
    have := h.rle b
    split <;> omega
  no b hb q hq hqk := by
    have hb' : (if b = v[k].toNat then u + 1 else R b) = 0 := hb
    split at hb'
    · omega
    · rename_i hne
      by_cases e : q = k
      · subst e; exact fun e2 => hne e2.symm
      · exact h.no b hb' q hq (by omega)
  yes b hb := by
    have hb' : (if b = v[k].toNat then u + 1 else R b) ≠ 0 := hb
    split at hb'
    · rename_i e; exact ⟨k, hk, by omega, e.symm⟩
    · obtain ⟨q, h1, h2, h3⟩ := h.yes b hb'
      exact ⟨q, h1, by omega, h3⟩
  inj b c hb hbc := by
    have hb' : (if b = v[k].toNat then u + 1 else R b) ≠ 0 := hb
    have hbc' : (if b = v[k].toNat then u + 1 else R b) = (if c = v[k].toNat then u + 1 else R c) := hbc
    have h1 := h.rle b
    have h2 := h.rle c
    by_cases e1 : b = v[k].toNat <;> by_cases e2 : c = v[k].toNat
    · rw [e1, e2]
    · rw [if_pos e1, if_neg e2] at hbc'; omega
    · rw [if_neg e1, if_pos e2] at hbc'; omega
    · rw [if_neg e1, if_neg e2] at hbc'; rw [if_neg e1] at hb'; exact h.inj b c hb' hbc'

/-- Behind k bytes: the bits. -/
structure BitsOf (v : ByteArray) (k ws : Nat) (R M : Nat → Nat) : Prop where
  lt : ∀ i, M i < 18446744073709551616
  bit : ∀ b, R b ≠ 0 → ∀ q, q < 64 * ws → ((M ((R b - 1) * ws + q / 64)).testBit (q % 64) = true ↔ q < k ∧ ∃ h : q < v.size, v[q].toNat = b)

theorem bits_start (v : ByteArray) (ws : Nat) (R : Nat → Nat) : BitsOf v 0 ws R (fun _ => 0) :=
  ⟨fun _ => (by decide : (0 : Nat) < 18446744073709551616), fun b _ q _ => by simp⟩

theorem pow_lt (t : Nat) (h : t < 64) : 2 ^ t < 18446744073709551616 := by
  rw [show (18446744073709551616 : Nat) = 2 ^ 64 from by decide]
  exact Nat.pow_lt_pow_right (by omega) h

theorem place_inj {ws a b c d : Nat} (hc : c < ws) (hd : d < ws) (h : a * ws + c = b * ws + d) : a = b ∧ c = d := by
  have e1 : (a * ws + c) / ws = a := by rw [Nat.mul_comm, Nat.mul_add_div (by omega), Nat.div_eq_of_lt hc]; omega
  have e2 : (b * ws + d) / ws = b := by rw [Nat.mul_comm, Nat.mul_add_div (by omega), Nat.div_eq_of_lt hd]; omega
  have : a = b := by rw [← e1, ← e2, h]
  subst this
  exact ⟨rfl, by omega⟩

theorem bits_step {v : ByteArray} {k u ws at_ : Nat} {R M : Nat → Nat} (hR : RowsOf v v.size u R) (h : BitsOf v k ws R M) (hk : k < v.size) (hv : v.size ≤ 64 * ws)
    (hat : at_ = (R (v[k].toNat) - 1) * ws + k / 64) (hr : R (v[k].toNat) ≠ 0) :
    BitsOf v (k + 1) ws R (fun i => if i = at_ then M at_ ||| 2 ^ (k % 64) else M i) where
  lt i := by
    show (if i = at_ then M at_ ||| 2 ^ (k % 64) else M i) < _
    split
    · exact Nat.or_lt_two_pow (n := 64) (h.lt _) (pow_lt _ (by omega))
    · exact h.lt i
  bit b hb q hq := by
    show (if (R b - 1) * ws + q / 64 = at_ then M at_ ||| 2 ^ (k % 64) else M ((R b - 1) * ws + q / 64)).testBit (q % 64) = true ↔ _
    by_cases e : (R b - 1) * ws + q / 64 = at_
    · rw [if_pos e]
      rw [hat] at e
      obtain ⟨e1, e2⟩ := place_inj (by omega) (by omega) e
      have ebc : b = v[k].toNat := hR.inj b _ hb (by omega)
      have hbit := h.bit b hb q hq
      rw [e, ← hat] at hbit
      rw [Nat.testBit_or, Bool.or_eq_true, hbit, Nat.testBit_two_pow]
      simp only [decide_eq_true_eq]
      constructor
      · rintro (⟨h1, h2⟩ | h1)
        · exact ⟨by omega, h2⟩
        · have : q = k := by omega
          subst this
          exact ⟨by omega, hk, ebc.symm⟩
      · rintro ⟨h1, h2⟩
        by_cases eq : q = k
        · right; rw [eq]
        · left; exact ⟨by omega, h2⟩
    · rw [if_neg e, h.bit b hb q hq]
      constructor
      · rintro ⟨h1, h2⟩; exact ⟨by omega, h2⟩
      · rintro ⟨h1, h2, h3⟩
        refine ⟨?_, h2, h3⟩
        by_cases eq : q = k
        · subst eq; subst h3; exact absurd hat.symm e
        · omega

theorem spell_setbit (m t : Nat) (hm : m < 18446744073709551616) (ht : t < 64) : bits .or .u64 (m : Int) (IntKind.u64.wrap (((2 ^ t : Nat) : Int))) = ((m ||| 2 ^ t : Nat) : Int) := by
  have h1 := pow_lt t ht
  have e : IntKind.u64.wrap (((2 ^ t : Nat) : Int)) = ((2 ^ t : Nat) : Int) := by
    generalize 2 ^ t = p at h1
    rw [IntKind.wrap_u64]; omega
  rw [e, u64_or_nat _ _ hm h1]
end Go.Proofs.Qxb6602003aMods
