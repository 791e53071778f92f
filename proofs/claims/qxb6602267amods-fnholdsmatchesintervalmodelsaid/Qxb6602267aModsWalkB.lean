import Derived.Test.Qxb6602267aModsWalkA
namespace Go.Proofs.Qxb6602267aMods
open Go.RowKit
set_option linter.unusedVariables false

/-- A slice of bytes that came in: Z i its elements. -/
structure Byts (w : World) (a : Option Addr) (len : Nat) (Z : Nat → Int) : Prop where
  cell : ∀ i, i < len → ∃ b off, a = some ⟨b, off, none⟩ ∧ w.cell? ⟨b, off + i, none⟩ = some (.int .u8 (Z i))
  nil : a = none → len = 0
  len : len ≤ 9223372036854775807

/-- A slice of the call's own that reads as the string k, now and later. -/
def Own (w : World) (a : Option Addr) (len : Nat) (k : ByteArray) : Prop := ∀ w', Below w.heap.size w w' → Str w' a len len k

theorem Own.below {w w' : World} {a : Option Addr} {len : Nat} {k : ByteArray} (h : Own w a len k) (hb : Below w.heap.size w w') : Own w' a len k :=
  fun w'' hb2 => h w'' (hb.trans (hb2.mono hb.size))
theorem Own.now {w : World} {a : Option Addr} {len : Nat} {k : ByteArray} (h : Own w a len k) : Str w a len len k := h w (Below.refl _ _)

theorem info5 : (Trym.prog.info? 5).map (fun i => (i.zero, i.size, i.bytes)) = some (some (.int .u8 0), 1, 1) := by kernel_rfl

/-- The cells of the copy, the first k filled. -/
structure Fill (w : World) (E len k : Nat) (Z : Nat → Int) : Prop where
  size : E < w.heap.size
  old : ∀ i, i < len → ∃ v, w.cell? ⟨E, i, none⟩ = some v
  cell : ∀ i, i < k → w.cell? ⟨E, i, none⟩ = some (.int .u8 (Z i))
  free : ∀ i, w.frozen? ⟨E, i, none⟩ = false

theorem fill_start {w : World} {len : Nat} (Z : Nat → Int) : Fill (w.alloc (.cells (madeCells #[.int .u8 0] len) 5 (0, 0))) w.heap.size len 0 Z := by
  have hg := heap_alloc_new w (.cells (madeCells #[.int .u8 0] len) 5 (0, 0))
  refine ⟨by simp, fun i hi => ?_, fun i hi => by omega, fun i => frozen_of_row _ _ _ _ 5 hg⟩
  rw [cell_of_row _ _ i _ 5 (0, 0) hg]
  exact ⟨_, Array.getElem?_eq_getElem (by rw [size_madeCells]; exact hi)⟩

theorem Fill.step {w : World} {E len k : Nat} {Z : Nat → Int} (h : Fill w E len k Z) (hk : k < len) : Fill (w.setCell ⟨E, k, none⟩ (.int .u8 (Z k))) E len (k + 1) Z where
  size := by simpa using h.size
  old i hi := by
    obtain ⟨v, hv⟩ := h.old i hi
    exact cell?_setCell_some hv
  cell i hi := by
    by_cases e : i = k
    · subst e
      obtain ⟨v, hv⟩ := h.old i hk
      exact World.cell?_setCell_same w _ _ hv
    · rw [World.cell?_setCell_other w _ _ _ (by intro e2; injection e2 with _ e3 _; exact e e3.symm)]
      exact h.cell i (by omega)
  free i := by rw [World.frozen?_setCell]; exact h.free i

theorem own_of_fill {w : World} {E len : Nat} {Z : Nat → Int} (h : Fill w E len len Z) : ∃ k, Own w (some ⟨E, 0, none⟩) len k := by
  refine ⟨strOfNums ((List.range len).map Z), fun w' hb => ⟨fun n => ?_, by rw [strOfNums_size]; simp⟩⟩
  refine run_convert_bytes_arg (P := Trym.prog) (w'.drewN n) 22 5 Trym.underlying22 Trym.underlying5 E 0 len len ((List.range len).map Z) (by simp) (fun i hi => ?_) 9 Trym.underlying9
  rw [Nat.zero_add]
  show w'.cell? ⟨E, i, none⟩ = _
  rw [hb.cell (p := ⟨E, i, none⟩) h.size, h.cell i hi]
  simp [hi]

theorem own_nil (w : World) : Own w none 0 ByteArray.empty := fun w' _ => ⟨fun n => by
  rw [run_convert_bytes_string (P := Trym.prog) _ 22 9 5 none 0 0 Trym.underlying22 Trym.underlying5 Trym.underlying9]
  simp [Conv.bytesToString], rfl⟩

/-- What the clone hands back. -/
def Cloned (w : World) (len : Nat) (e : Ending) (w' : World) : Prop :=
  ∃ (a' : Option Addr) (k : ByteArray), e = .returned (.slice a' len len) ∧ Own w' a' len k ∧ Below w.heap.size w w'

set_option maxHeartbeats 400000 in
theorem clone7 (a : Option Addr) (len cap : Nat) (Z : Nat → Int) (w : World) (h : Byts w a len Z) (hl : len ≤ 1048576) :
    Calls Trym.prog 7 #[.slice a len cap] w fun e w' => Cloned w len e w' := by
  have qn : ∀ (w : World) (a : Option Addr) (n c n' c' : Nat), (binOp .eql 22 (.slice a n c) (.slice none n' c')).run Trym.prog w = .ok (.bool a.isNone) w := fun w a n c n' c' => Lib.run_eql_slice_nil w _ _ a n c n' c' Trym.underlying22
  cases a with
  | none =>
    obtain rfl := h.nil rfl
    go_enter Trym.func7, Trym.ntmps7
    go_wp2
    go_ret
    exact ⟨none, _, rfl, own_nil w, Below.refl _ _⟩
  | some x =>
    have hmk := run_make_row' (P := Trym.prog) 22 5 (.int .u8 0) 1 Trym.underlying22 info5 rfl .i64 .i64 len (by omega) (by omega)
    go_enter Trym.func7, Trym.ntmps7
    go_wp2
    go_loopw [4] (fun i wr => ∃ k : Nat, k ≤ len ∧ i = .int .i64 k ∧ Fill wr w.heap.size len k Z ∧ Below w.heap.size w wr) (fun i _ => len - (intOf i).toNat)
    case atStart => exact ⟨0, by omega, rfl, fill_start Z, (Below.refl _ _).alloc (Nat.le_refl _) _⟩
    case round =>
      obtain ⟨k, hk, rfl, hf, hbl⟩ := hrel
      clear hmk
      by_cases hlt : k < len
      · obtain ⟨b, off, hx, hc⟩ := h.cell k hlt
        obtain rfl : x = ⟨b, off, none⟩ := by simpa using hx
        have hb : b < w.heap.size := block_lt_of_cell hc
        have hc2 : wr.cell? ⟨b, off + k, none⟩ = some (.int .u8 (Z k)) := (hbl.cell (p := ⟨b, off + k, none⟩) hb).trans hc
        obtain ⟨v, hv⟩ := hf.old k hlt
        have hfr := hf.free k
        have HF : Hid _ := hf.step hlt
        clear hc hx
        go_wp2
        go_roundw
        case rel => exact ⟨k + 1, hlt, by go_num, HF.out, hbl.setCell (Nat.le_refl _) _⟩
        case measure => simp [intOf]; omega
      · obtain rfl : k = len := by omega
        obtain ⟨kk, ho⟩ := own_of_fill hf
        go_wp2
        go_ret
        exact ⟨_, kk, rfl, ho, hbl⟩

theorem bytes10 (a1 : Option Addr) (l1 c1 : Nat) (a2 : Option Addr) (l2 c2 : Nat) (w : World) (h1 : l1 ≤ maxLen) (h2 : l2 ≤ maxLen) :
    Calls Trym.prog 10 #[.slice a1 l1 c1, .slice a2 l2 c2] w fun e w' => RetBool e ∧ w' = w := by
  unfold maxLen at h1 h2
  by_cases d1 : 1048576 < l1
  · go_enter Trym.func10, Trym.ntmps10
    go_wp2
    go_ret
    exact ⟨⟨_, rfl⟩, rfl⟩
  by_cases d2 : 1048576 < l2
  all_goals
    go_enter Trym.func10, Trym.ntmps10
    go_wp2
    all_goals
      go_ret
      exact ⟨⟨_, rfl⟩, rfl⟩

theorem bytes6 (s e : ByteArray) (a1 : Option Addr) (l1 c1 : Nat) (a2 : Option Addr) (l2 c2 : Nat) (w : World) (hs : s.size ≤ maxLen) (he : e.size ≤ maxLen) (h1 : l1 ≤ maxLen) (h2 : l2 ≤ maxLen) :
    Calls Trym.prog 6 #[.string s, .string e, .slice a1 l1 c1, .slice a2 l2 c2] w fun e w' => RetBool e ∧ w' = w := by
  unfold maxLen at h1 h2 hs he
  by_cases d1 : 1048576 < s.size
  · go_enter Trym.func6, Trym.ntmps6
    go_wp2
    go_ret
    exact ⟨⟨_, rfl⟩, rfl⟩
  by_cases d2 : 1048576 < e.size
  · go_enter Trym.func6, Trym.ntmps6
    go_wp2
    all_goals
      go_ret
      exact ⟨⟨_, rfl⟩, rfl⟩
  by_cases d3 : 1048576 < l1
  · go_enter Trym.func6, Trym.ntmps6
    go_wp2
    all_goals
      go_ret
      exact ⟨⟨_, rfl⟩, rfl⟩
  by_cases d4 : 1048576 < l2
  all_goals
    go_enter Trym.func6, Trym.ntmps6
    go_wp2
    all_goals
      go_ret
      exact ⟨⟨_, rfl⟩, rfl⟩
end Go.Proofs.Qxb6602267aMods
