import Derived.Test.Qxb6602094aModsWalkA
import Derived.Deep.OwnRows
namespace Go.Proofs.Qxb6602094aMods
open Go.RowKit
set_option linter.unusedVariables false

/-- The ending hands back some bool. -/
def RetBool (e : Ending) : Prop := ∃ b, e = .returned (.bool b)

set_option maxHeartbeats 1000000 in
theorem bytes14 (name : ByteArray) (a : Option Addr) (len cap : Nat) (S : Nat → ByteArray) (path : ByteArray) (kr : Bool) (method req : ByteArray) (w : World) (h : Strs w a len S)
    (h0 : name.size ≤ maxLen) (h2 : path.size ≤ maxLen) (h4 : method.size ≤ maxLen) (h5 : req.size ≤ maxLen) :
    Calls Trym.prog 14 #[.string name, .slice a len cap, .string path, .bool kr, .string method, .string req] w fun e w' => RetBool e ∧ w' = w := by
  have hl := h.len
  unfold maxLen at h0 h2 h4 h5
  by_cases c0 : 1048576 < name.size
  · go_enter Trym.func14, Trym.ntmps14
    go_wp2
    go_ret
    exact ⟨⟨_, rfl⟩, rfl⟩
  by_cases c1 : 1048576 < len
  · go_enter Trym.func14, Trym.ntmps14
    go_wp2
    go_ret
    exact ⟨⟨_, rfl⟩, rfl⟩
  by_cases c2 : 1048576 < name.size + len
  · go_enter Trym.func14, Trym.ntmps14
    go_wp2
    go_ret
    exact ⟨⟨_, rfl⟩, rfl⟩
  go_enter Trym.func14, Trym.ntmps14
  go_wp2
  go_loop [13, 14] (fun z i => ∃ n k : Nat, n ≤ 1048576 ∧ k ≤ len ∧ z = .int .i64 n ∧ i = .int .i64 k) (fun _ i => len - (intOf i).toNat)
  case atStart => exact ⟨name.size + len, 0, by omega, by omega, by go_num, rfl⟩
  case round =>
    obtain ⟨n, k, hn, hk, rfl, rfl⟩ := hrel
    by_cases hlt : k < len
    · obtain ⟨b, off, rfl, hc⟩ := h.cell k hlt
      have hsz := h.size k hlt
      generalize S k = t at hc hsz
      by_cases d0 : 1048576 < t.size
      · go_wp2
        go_ret
        exact ⟨⟨_, rfl⟩, rfl⟩
      by_cases d1 : 1048576 < n + t.size
      · go_wp2
        go_ret
        exact ⟨⟨_, rfl⟩, rfl⟩
      go_wp2
      go_round
      case rel => exact ⟨n + t.size, k + 1, by omega, by omega, by go_num, by go_num⟩
      case measure => simp [intOf]; omega
    · go_wp2
      all_goals
        go_ret
        exact ⟨⟨_, rfl⟩, rfl⟩

/-- What zzRouteTooBig answers: where it says no, all is small. -/
def Fits (ps : Prop) (e : Ending) : Prop := ∃ b, e = .returned (.bool b) ∧ (b = false → ps)

set_option maxHeartbeats 1000000 in
theorem big15 (name : ByteArray) (a : Option Addr) (len cap : Nat) (S : Nat → ByteArray) (path method req : ByteArray) (w : World) (h : Strs w a len S)
    (h0 : name.size ≤ maxLen) (h2 : path.size ≤ maxLen) (h4 : method.size ≤ maxLen) (h5 : req.size ≤ maxLen) :
    Calls Trym.prog 15 #[.string name, .slice a len cap, .string path, .string method, .string req] w fun e w' => Fits (path.size ≤ 1048576 ∧ req.size ≤ 1048576 ∧ len ≤ 65536) e ∧ w' = w := by
  have hl := h.len
  unfold maxLen at h0 h2 h4 h5
  by_cases c0 : 1048576 < name.size
  · go_enter Trym.func15, Trym.ntmps15
    go_wp2
    go_ret
    exact ⟨⟨true, rfl, fun h => by cases h⟩, rfl⟩
  by_cases c1 : 1048576 < path.size
  · go_enter Trym.func15, Trym.ntmps15
    go_wp2
    go_ret
    exact ⟨⟨true, rfl, fun h => by cases h⟩, rfl⟩
  by_cases c2 : 1048576 < method.size
  · go_enter Trym.func15, Trym.ntmps15
    go_wp2
    go_ret
    exact ⟨⟨true, rfl, fun h => by cases h⟩, rfl⟩
  by_cases c3 : 1048576 < req.size
  · go_enter Trym.func15, Trym.ntmps15
    go_wp2
    go_ret
    exact ⟨⟨true, rfl, fun h => by cases h⟩, rfl⟩
  by_cases c4 : 65536 < len
  · go_enter Trym.func15, Trym.ntmps15
    go_wp2
    go_ret
    exact ⟨⟨true, rfl, fun h => by cases h⟩, rfl⟩
  by_cases c5 : 1048576 < name.size + path.size + method.size + req.size + 16 * len
  · go_enter Trym.func15, Trym.ntmps15
    go_wp2
    go_ret
    exact ⟨⟨true, rfl, fun h => by cases h⟩, rfl⟩
  go_enter Trym.func15, Trym.ntmps15
  go_wp2
  go_loop [11, 12] (fun z i => ∃ n k : Nat, n ≤ 1048576 ∧ k ≤ len ∧ z = .int .i64 n ∧ i = .int .i64 k) (fun _ i => len - (intOf i).toNat)
  case atStart => exact ⟨name.size + path.size + method.size + req.size + 16 * len, 0, by omega, by omega, by go_num, rfl⟩
  case round =>
    obtain ⟨n, k, hn, hk, rfl, rfl⟩ := hrel
    by_cases hlt : k < len
    · obtain ⟨b, off, rfl, hc⟩ := h.cell k hlt
      have hsz := h.size k hlt
      generalize S k = t at hc hsz
      by_cases d0 : 1048576 < t.size
      · go_wp2
        go_ret
        exact ⟨⟨true, rfl, fun h => by cases h⟩, rfl⟩
      by_cases d1 : 1048576 < n + t.size
      · go_wp2
        go_ret
        exact ⟨⟨true, rfl, fun h => by cases h⟩, rfl⟩
      go_wp2
      go_round
      case rel => exact ⟨n + t.size, k + 1, by omega, by omega, by go_num, by go_num⟩
      case measure => simp [intOf]; omega
    · go_wp2
      go_ret
      exact ⟨⟨false, rfl, fun _ => ⟨by omega, by omega, by omega⟩⟩, rfl⟩

theorem info9 : (Trym.prog.info? 9).map (fun i => (i.zero, i.size, i.bytes)) = some (some (.string ByteArray.empty), 1, 16) := by kernel_rfl

/-- The clone: a slice of strings of the call's own, or nil. -/
def Cloned (w : World) (len : Nat) (S : Nat → ByteArray) (e : Ending) (w' : World) : Prop :=
  ∃ a' : Option Addr, e = .returned (.slice a' len len) ∧ Strs w' a' len S ∧ Below w.heap.size w w'

/-- The cells of the copy, the first k filled. -/
structure Fill (w : World) (E len k : Nat) (S : Nat → ByteArray) : Prop where
  size : E < w.heap.size
  old : ∀ i, i < len → ∃ v, w.cell? ⟨E, i, none⟩ = some v
  cell : ∀ i, i < k → w.cell? ⟨E, i, none⟩ = some (.string (S i))
  free : ∀ i, w.frozen? ⟨E, i, none⟩ = false

theorem fill_start {w : World} {len : Nat} (S : Nat → ByteArray) : Fill (w.alloc (.cells (madeCells #[.string ByteArray.empty] len) 9 (0, 0))) w.heap.size len 0 S := by
  have hg := heap_alloc_new w (.cells (madeCells #[.string ByteArray.empty] len) 9 (0, 0))
  refine ⟨by simp, fun i hi => ?_, fun i hi => by omega, fun i => frozen_of_row _ _ _ _ 9 hg⟩
  rw [cell_of_row _ _ i _ 9 (0, 0) hg]
  exact ⟨_, Array.getElem?_eq_getElem (by rw [size_madeCells]; exact hi)⟩

theorem Fill.step {w : World} {E len k : Nat} {S : Nat → ByteArray} (h : Fill w E len k S) (hk : k < len) : Fill (w.setCell ⟨E, k, none⟩ (.string (S k))) E len (k + 1) S where
  size := by simpa using h.size
  old i hi := by
    obtain ⟨v, hv⟩ := h.old i hi
    exact cell?_setCell_some hv
  cell i hi := by
    by_cases e : i = k
    · subst e
      obtain ⟨v, hv⟩ := h.old i hk
      exact World.cell?_setCell_same w _ _ hv
    · rw [World.cell?_setCell_other w _ _ _ (by intro e2; injection e2 with _ e3 _; exact e e3.symm)]
      exact h.cell i (by omega)
  free i := by rw [World.frozen?_setCell]; exact h.free i

theorem strs_of_fill {w w' : World} {E len k : Nat} {a : Option Addr} {S : Nat → ByteArray} (h : Fill w' E len len S) (hs : Strs w a len S) : Strs w' (some ⟨E, 0, none⟩) len S :=
  ⟨fun i hi => ⟨E, 0, rfl, by rw [Nat.zero_add]; exact h.cell i hi⟩, hs.size, hs.len⟩

set_option maxHeartbeats 400000 in
theorem clone16 (a : Option Addr) (len cap : Nat) (S : Nat → ByteArray) (w : World) (h : Strs w a len S) (hl : len ≤ 65536) (hnil : a = none → len = 0) :
    Calls Trym.prog 16 #[.slice a len cap] w fun e w' => Cloned w len S e w' := by
  have qn : ∀ (w : World) (a : Option Addr) (n c n' c' : Nat), (binOp .eql 24 (.slice a n c) (.slice none n' c')).run Trym.prog w = .ok (.bool a.isNone) w := fun w a n c n' c' => Lib.run_eql_slice_nil w _ _ a n c n' c' Trym.underlying24
  cases a with
  | none =>
    obtain rfl := hnil rfl
    go_enter Trym.func16, Trym.ntmps16
    go_wp2
    go_ret
    exact ⟨none, rfl, h, Below.refl _ _⟩
  | some x =>
    have hmk := run_make_row' (P := Trym.prog) 24 9 (.string ByteArray.empty) 16 Trym.underlying24 info9 rfl .i64 .i64 len (by omega) (by omega)
    go_enter Trym.func16, Trym.ntmps16
    go_wp2
    go_loopw [4] (fun i wr => ∃ k : Nat, k ≤ len ∧ i = .int .i64 k ∧ Fill wr w.heap.size len k S ∧ Below w.heap.size w wr) (fun i _ => len - (intOf i).toNat)
    case atStart => exact ⟨0, by omega, rfl, fill_start S, (Below.refl _ _).alloc (Nat.le_refl _) _⟩
    case round =>
      obtain ⟨k, hk, rfl, hf, hbl⟩ := hrel
      clear hmk
      by_cases hlt : k < len
      · obtain ⟨b, off, hx, hc⟩ := h.cell k hlt
        obtain rfl : x = ⟨b, off, none⟩ := by simpa using hx
        have hb : b < w.heap.size := block_lt_of_cell hc
        have hc2 : wr.cell? ⟨b, off + k, none⟩ = some (.string (S k)) := (hbl.cell (p := ⟨b, off + k, none⟩) hb).trans hc
        obtain ⟨v, hv⟩ := hf.old k hlt
        have hfr := hf.free k
        have HF : Hid _ := hf.step hlt
        clear hc hx
        go_wp2
        go_roundw
        case rel => exact ⟨k + 1, hlt, by go_num, HF.out, hbl.setCell (Nat.le_refl _) _⟩
        case measure => simp [intOf]; omega
      · obtain rfl : k = len := by omega
        go_wp2
        go_ret
        exact ⟨_, rfl, strs_of_fill (k := 0) hf h, hbl⟩
end Go.Proofs.Qxb6602094aMods
