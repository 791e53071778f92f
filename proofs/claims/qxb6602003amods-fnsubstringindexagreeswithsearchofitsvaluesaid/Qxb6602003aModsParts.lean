import Derived.Test.Qxb6602003aModsWalkB
import Derived.Laws.CopyOwn
namespace Go.Proofs.Qxb6602003aMods
open Go.RowKit
set_option linter.unusedVariables false

/-- An index as it lies in memory: X the struct's block, B the block of the bits. -/
structure Ix (w : World) (X B ws n : Nat) (R M : Nat → Nat) : Prop where
  hX : X < w.heap.size
  hB : B < w.heap.size
  rows : ∀ b, b < 256 → w.cell? ⟨X, b, none⟩ = some (.int .u16 (R b : Int))
  words : w.cell? ⟨X, 256, none⟩ = some (.int .i64 (ws : Int))
  bits : w.cell? ⟨X, 257, none⟩ = some (.slice (some ⟨B, 0, none⟩) n n)
  mem : ∀ i, i < n → w.cell? ⟨B, i, none⟩ = some (.int .u64 (M i : Int))
  lt : ∀ i, M i < 18446744073709551616
  rle : ∀ b, R b ≤ 1000
  fit : ∀ b, R b * ws ≤ n
  wsle : ws ≤ 16
  nle : n ≤ 16000
  wpos : ∀ b, R b ≠ 0 → 1 ≤ ws

/-- The index is that of 'v'. -/
structure Idx (v : ByteArray) (ws : Nat) (R M : Nat → Nat) : Prop where
  vle : v.size ≤ 64 * ws
  bit : ∀ b, R b ≠ 0 → ∀ q, q < 64 * ws → ((M ((R b - 1) * ws + q / 64)).testBit (q % 64) = true ↔ ∃ h : q < v.size, v[q].toNat = b)
  no : ∀ b, R b = 0 → ∀ q (h : q < v.size), v[q].toNat ≠ b
  yes : ∀ b, R b ≠ 0 → ∃ q, ∃ h : q < v.size, v[q].toNat = b

theorem toList_ne {s : ByteArray} (h : 0 < s.size) : s.toList.isEmpty = false := by
  cases hh : s.toList with
  | nil =>
    have e : s.data.toList = [] := by rw [← ByteArray.toList_eq]; exact hh
    have : s.data.toList.length = 0 := by rw [e]; rfl
    have e2 : s.data.toList.length = s.size := by simp
    omega
  | cons a b => rfl

theorem toList_none {s : ByteArray} (h : s.size = 0) : s.toList.isEmpty = true := by
  rw [ByteArray.toList_eq]
  have e2 : s.data.toList.length = s.size := by simp
  cases hh : s.data.toList with
  | nil => rfl
  | cons a b => rw [hh] at e2; simp at e2; omega

theorem byte_lt (a : UInt8) : a.toNat < 256 := a.toNat_lt

theorem Ix.below {w w' : World} {X B ws n : Nat} {R M : Nat → Nat} (h : Ix w X B ws n R M) (hb : Below w.heap.size w w') : Ix w' X B ws n R M where
  hX := Nat.lt_of_lt_of_le h.hX hb.size
  hB := Nat.lt_of_lt_of_le h.hB hb.size
  rows b hb1 := (hb.cell (p := ⟨X, b, none⟩) h.hX).trans (h.rows b hb1)
  words := (hb.cell (p := ⟨X, 256, none⟩) h.hX).trans h.words
  bits := (hb.cell (p := ⟨X, 257, none⟩) h.hX).trans h.bits
  mem i hi := (hb.cell (p := ⟨B, i, none⟩) h.hB).trans (h.mem i hi)
  lt := h.lt
  rle := h.rle
  fit := h.fit
  wsle := h.wsle
  nle := h.nle
  wpos := h.wpos

theorem below_drewN (B : Nat) {a w : World} (h : Below B a w) (k : Nat) : Below B a (w.drewN k) := h.trans ⟨rfl, rfl, rfl, Nat.le_refl _, fun _ _ => rfl⟩

/-- The callee 'row' at an index: the byte is there. -/
theorem row33_ix {w : World} {X B ws n : Nat} {R M : Nat → Nat} (h : Ix w X B ws n R M) (b lo : Nat) (hb : b < 256) (hr : R b ≠ 0) (hlo : lo = (R b - 1) * ws) :
    Calls Trym.prog 33 #[.pointer (some ⟨X, 0, none⟩), .int .u8 (b : Int)] w fun e w' => e = .returned (.slice (some ⟨B, lo, none⟩) ws (n - lo)) ∧ ∃ k, w' = w.drewN k := by
  have h1 := h.rle b
  have h2 := h.fit b
  obtain ⟨r, er⟩ : ∃ r, R b = r + 1 := ⟨R b - 1, by omega⟩
  rw [er] at h1 h2
  rw [er] at hlo
  subst hlo
  exact row33_some X b B r ws n hb w (by rw [h.rows b hb, er]; simp) h.words h.bits (by omega) (h.wpos b (by omega)) h2 h.nle

theorem row33_no {w : World} {X B ws n : Nat} {R M : Nat → Nat} (h : Ix w X B ws n R M) (b : Nat) (hb : b < 256) (hr : R b = 0) :
    Calls Trym.prog 33 #[.pointer (some ⟨X, 0, none⟩), .int .u8 (b : Int)] w fun e w' => e = .returned (.slice none 0 0) ∧ w' = w :=
  row33_nil X b hb w (by rw [h.rows b hb, hr]; simp)

/-- The sixteen words of the call's own. -/
structure Arr16 (w : World) (E : Nat) (F : Nat → Nat) : Prop where
  size : E < w.heap.size
  cell : ∀ j, j < 16 → w.cell? ⟨E, j, none⟩ = some (.int .u64 (F j : Int))
  free : ∀ j, w.frozen? ⟨E, j, none⟩ = false
  lt : ∀ t, F t < 18446744073709551616

theorem Arr16.drewN {w : World} {E : Nat} {F : Nat → Nat} (h : Arr16 w E F) (k : Nat) : Arr16 (w.drewN k) E F :=
  ⟨h.size, h.cell, h.free, h.lt⟩

theorem Arr16.set {w : World} {E : Nat} {F : Nat → Nat} (h : Arr16 w E F) (j x : Nat) (hj : j < 16) (hx : x < 18446744073709551616) :
    Arr16 (w.setCell ⟨E, j, none⟩ (.int .u64 (x : Int))) E (fun t => if t = j then x else F t) where
  size := by simpa using h.size
  cell t ht := by
    by_cases e : t = j
    · subst e; simp only [if_true]; exact World.cell?_setCell_same w _ _ (h.cell t ht)
    · simp only [if_neg e]
      rw [World.cell?_setCell_other w _ _ _ (by intro e2; injection e2 with _ e3 _; exact e e3.symm)]
      exact h.cell t ht
  free t := by rw [World.frozen?_setCell]; exact h.free t
  lt t := by
    show (if t = j then x else F t) < _
    split
    · exact hx
    · exact h.lt t

/-- The cells that are copied. -/
def rowCells (M : Nat → Nat) (lo ws : Nat) : List Value := (List.range ws).map fun j => Value.int .u64 (M (lo + j) : Int)
def zeros : List Value := [.int .u64 0, .int .u64 0, .int .u64 0, .int .u64 0, .int .u64 0, .int .u64 0, .int .u64 0, .int .u64 0, .int .u64 0, .int .u64 0, .int .u64 0, .int .u64 0, .int .u64 0, .int .u64 0, .int .u64 0, .int .u64 0]
theorem zeros_get (j : Nat) (h : j < 16) : zeros[j]? = some (.int .u64 0) := by
  have : ∀ j, j < 16 → zeros[j]? = some (.int .u64 0) := by
    intro j hj
    match j, hj with
    | 0, _ | 1, _ | 2, _ | 3, _ | 4, _ | 5, _ | 6, _ | 7, _ | 8, _ | 9, _ | 10, _ | 11, _ | 12, _ | 13, _ | 14, _ | 15, _ => rfl
    | j + 16, hj => omega
  exact this j h
theorem len_rowCells (M : Nat → Nat) (lo ws : Nat) : (rowCells M lo ws).length = ws := by simp [rowCells]
theorem one_rowCells (M : Nat → Nat) (lo ws : Nat) : ∀ v ∈ rowCells M lo ws, v.oneCell' = true := by
  intro v hv
  simp only [rowCells, List.mem_map] at hv
  obtain ⟨j, _, rfl⟩ := hv
  rfl

/-- The words behind the copy. -/
def startW (M : Nat → Nat) (lo ws : Nat) (t : Nat) : Nat := if t < ws then M (lo + t) else 0

theorem arr_start {w : World} {E : Nat} {M : Nat → Nat} {lo ws : Nat} {t : TypeId} (hM : ∀ i, M i < 18446744073709551616) (hws : ws ≤ 16)
    (h : w.heap[E]? = some (.cells (splice zeros 0 (rowCells M lo ws)).toArray t (0, 0))) : Arr16 w E (startW M lo ws) where
  size := by
    rcases Nat.lt_or_ge E w.heap.size with h1 | h1
    · exact h1
    · rw [Array.getElem?_eq_none h1] at h; cases h
  cell j hj := by
    rw [cell_of_row w E j _ t _ h]
    simp only [splice, List.take_zero, List.nil_append, len_rowCells, List.getElem?_toArray, Nat.zero_add, startW]
    by_cases hlt : j < ws
    · rw [List.getElem?_append_left (by rw [len_rowCells]; exact hlt), if_pos hlt]
      simp [rowCells, hlt]
    · rw [List.getElem?_append_right (by rw [len_rowCells]; omega), if_neg hlt, len_rowCells, List.getElem?_drop, show ws + (j - ws) = j from by omega, zeros_get j hj]
      rfl
  free j := frozen_of_row w E j _ t h
  lt i := by
    unfold startW; split
    · exact hM _
    · decide

/-- A byte of 's' and one of 'v' are one. -/
theorem byte_same {v s : ByteArray} {k : Nat} (hk : k < s.size) (q : Nat) : (∃ h : q < v.size, v[q].toNat = s[k].toNat) ↔ q < v.size ∧ v.data[q]? = s.data[k]? := by
  constructor
  · rintro ⟨h, e⟩
    exact ⟨h, by rw [data_get v q h, data_get s k hk, UInt8.toNat_inj.mp e]⟩
  · rintro ⟨h, e⟩
    rw [data_get v q h, data_get s k hk] at e
    exact ⟨h, by rw [show v[q] = s[k] from by simpa using e]⟩

/-- The first byte: what the copied words say. -/
theorem says_first {v s : ByteArray} {ws lo : Nat} {R M : Nat → Nat} (hd : Idx v ws R M) (h0 : 0 < s.size) (hr : R (s[0].toNat) ≠ 0) (hlo : lo = (R (s[0].toNat) - 1) * ws) :
    Says v s ws (startW M lo ws) 1 := by
  intro q hq
  rw [ends_one, ← byte_same h0, ← hd.bit _ hr q hq, ← hlo]
  unfold startW
  rw [if_pos (by omega)]

theorem alive_first {v s : ByteArray} {ws : Nat} {R M : Nat → Nat} (hd : Idx v ws R M) (h0 : 0 < s.size) (hr : R (s[0].toNat) ≠ 0) : ∃ q, EndsAt v s 1 q := by
  obtain ⟨q, h⟩ := hd.yes _ hr
  exact ⟨q, by rw [ends_one, ← byte_same h0]; exact h⟩

theorem no_byte {v s : ByteArray} {ws k : Nat} {R M : Nat → Nat} (hd : Idx v ws R M) (hk : k < s.size) (hr : R (s[k].toNat) = 0) : ¬ ∃ p, MatchAt v s p := by
  rintro ⟨p, h⟩
  have h2 := h.2 k hk
  have h3 : p + k < v.size := by have := h.1; omega
  obtain ⟨h4, h5⟩ := (byte_same hk (p + k)).2 ⟨h3, h2⟩
  exact hd.no _ hr _ h4 h5

theorem row_says {v s : ByteArray} {ws k lo : Nat} {R M : Nat → Nat} (hd : Idx v ws R M) (hk : k < s.size) (hr : R (s[k].toNat) ≠ 0) (hlo : lo = (R (s[k].toNat) - 1) * ws) :
    ∀ q, q < 64 * ws → ((M (lo + q / 64)).testBit (q % 64) = true ↔ q < v.size ∧ v.data[q]? = s.data[k]?) := by
  intro q hq
  rw [← byte_same hk, ← hd.bit _ hr q hq, ← hlo]

/-- The words in mid-round: those below j are new. -/
def midW (F A : Nat → Nat) (j t : Nat) : Nat := if t < j then newW F A t else F t

theorem midW_zero (F A : Nat → Nat) : midW F A 0 = F := by funext t; simp [midW]
theorem midW_at (F A : Nat → Nat) (j : Nat) : midW F A j j = F j := by simp [midW]
theorem midW_succ (F A : Nat → Nat) (j : Nat) : (fun t => if t = j then newW F A j else midW F A j t) = midW F A (j + 1) := by
  funext t
  by_cases e : t = j
  · subst e; simp [midW]
  · by_cases h : t < j
    · simp [midW, e, h, show t < j + 1 from by omega]
    · simp [midW, e, h, show ¬ t < j + 1 from by omega]

theorem spell_newW {F : Nat → Nat} (hF : ∀ t, F t < 18446744073709551616) (A : Nat → Nat) (hA : ∀ t, A t < 18446744073709551616) (j : Nat) :
    Go.bits .and .u64 (Go.bits .or .u64 (IntKind.u64.wrap ((F j : Int) * 2)) (carryOf F j : Int)) (A j : Int) = ((newW F A j : Nat) : Int) :=
  spell_new (F j) (carryOf F j) (A j) (carry_lt hF j) (hA j)

/-- One word's round: what the loop's relation holds at j + 1. -/
theorem rel_word {w wr : World} {F A : Nat → Nat} {j : Nat} (hF : ∀ t, F t < 18446744073709551616) (hA : ∀ t, A t < 18446744073709551616) (hj : j < 16)
    (har : Arr16 wr w.heap.size (midW F A j)) (hbl : Below w.heap.size w wr) :
    Value.int .u64 ((F j : Int) / 9223372036854775808) = .int .u64 (carryOf F (j + 1) : Int) ∧
    Value.int .u64 (Go.bits .or .u64 (orTo (newW F A) j : Int) (Go.bits .and .u64 (Go.bits .or .u64 (IntKind.u64.wrap ((F j : Int) * 2)) (carryOf F j : Int)) (A j : Int))) = .int .u64 (orTo (newW F A) (j + 1) : Int) ∧
    Arr16 (wr.setCell ⟨w.heap.size, j, none⟩ (.int .u64 (Go.bits .and .u64 (Go.bits .or .u64 (IntKind.u64.wrap ((F j : Int) * 2)) (carryOf F j : Int)) (A j : Int)))) w.heap.size (midW F A (j + 1)) ∧
    Below w.heap.size w (wr.setCell ⟨w.heap.size, j, none⟩ (.int .u64 (Go.bits .and .u64 (Go.bits .or .u64 (IntKind.u64.wrap ((F j : Int) * 2)) (carryOf F j : Int)) (A j : Int)))) := by
  rw [spell_newW hF A hA j]
  refine ⟨?_, ?_, ?_, ?_⟩
  · have : ((F j : Int) / 9223372036854775808) = ((carryOf F (j + 1) : Nat) : Int) := by simp only [carryOf]; omega
    rw [this]
  · rw [spell_or _ _ (orTo_lt (newW_lt hA) j) (newW_lt hA j)]
    rfl
  · rw [← midW_succ]
    exact har.set j _ hj (newW_lt hA j)
  · exact hbl.setCell (Nat.le_refl _) _

/-- Behind the inner loop: no word holds a bit. -/
theorem word_none {v s : ByteArray} {ws k : Nat} {F A : Nat → Nat} (hF : ∀ t, F t < 18446744073709551616) (hk : 1 ≤ k) (hlt : k < s.size) (hv : v.size ≤ 64 * ws) (hs : Says v s ws F k)
    (hA : ∀ q, q < 64 * ws → ((A (q / 64)).testBit (q % 64) = true ↔ q < v.size ∧ v.data[q]? = s.data[k]?))
    (h : (((orTo (newW F A) ws : Nat) : Int) == 0) = true) : ¬ ∃ p, MatchAt v s p := by
  rintro ⟨p, hp⟩
  have h0 : orTo (newW F A) ws = 0 := by simp at h; omega
  have h1 := says_step (G := newW F A) hF hk hs hA (fun t _ => rfl)
  exact says_none hv h1 ((orTo_zero ws).1 h0) ⟨_, ends_of_match hp (by omega) (by omega)⟩

theorem word_some {v s : ByteArray} {ws k : Nat} {F A : Nat → Nat} (hF : ∀ t, F t < 18446744073709551616) (hA' : ∀ t, A t < 18446744073709551616) (hk : 1 ≤ k) (hs : Says v s ws F k)
    (hA : ∀ q, q < 64 * ws → ((A (q / 64)).testBit (q % 64) = true ↔ q < v.size ∧ v.data[q]? = s.data[k]?))
    (h : (((orTo (newW F A) ws : Nat) : Int) == 0) = false) : Says v s ws (midW F A ws) (k + 1) ∧ ∃ q, EndsAt v s (k + 1) q := by
  have h0 : orTo (newW F A) ws ≠ 0 := by simp at h; omega
  have h1 := says_step (G := newW F A) hF hk hs hA (fun t _ => rfl)
  refine ⟨says_step (G := midW F A ws) hF hk hs hA (fun t ht => by simp [midW, ht]), ?_⟩
  exact says_some (newW_lt hA') h1 (fun hz => h0 ((orTo_zero ws).2 hz))
end Go.Proofs.Qxb6602003aMods
