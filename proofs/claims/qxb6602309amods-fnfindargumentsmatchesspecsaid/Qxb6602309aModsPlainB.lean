import Derived.Test.Qxb6602309aModsPlain
namespace Go.Proofs.Qxb6602309aMods
set_option linter.unusedVariables false

/-- The words of the command that begins behind i, up to k. -/
def seg (xs : List Wd) (i k : Nat) : List Wd := (xs.drop (i + 1)).take (k - (i + 1))

theorem lt_of_get {α : Type} {xs : List α} {k : Nat} {x : α} (h : xs[k]? = some x) : k < xs.length := by
  rcases Nat.lt_or_ge k xs.length with h1 | h1
  · exact h1
  · rw [List.getElem?_eq_none h1] at h; cases h

theorem drop_get {xs : List Wd} {k : Nat} {x : Wd} (h : xs[k]? = some x) : xs.drop k = x :: xs.drop (k + 1) := by
  have hk := lt_of_get h
  rw [List.drop_eq_getElem_cons hk]
  rw [List.getElem?_eq_getElem hk] at h
  simp only [Option.some.injEq] at h
  rw [h]

theorem seg_start (xs : List Wd) (i : Nat) : seg xs i (i + 1) = [] := by simp [seg]

theorem seg_snoc {xs : List Wd} {i k : Nat} {y : Wd} (h : xs[k]? = some y) (hik : i + 1 ≤ k) : seg xs i (k + 1) = seg xs i k ++ [y] := by
  have hk := lt_of_get h
  unfold seg
  rw [show k + 1 - (i + 1) = (k - (i + 1)) + 1 from by omega]
  have hl : k - (i + 1) < (xs.drop (i + 1)).length := by simp; omega
  rw [List.take_succ_eq_append_getElem hl]
  have : (xs.drop (i + 1))[k - (i + 1)] = y := by
    rw [List.getElem_drop]
    have h2 : xs[i + 1 + (k - (i + 1))]? = some y := by rw [show i + 1 + (k - (i + 1)) = k from by omega]; exact h
    rw [List.getElem?_eq_getElem (by omega)] at h2
    simpa using h2
  rw [this]

theorem seg_len {xs : List Wd} {i k : Nat} (hik : i + 1 ≤ k) (hk : k ≤ xs.length) : (seg xs i k).length = k - (i + 1) := by
  unfold seg; simp; omega

theorem seg_get {xs : List Wd} {i k j : Nat} {y : Wd} (h : (seg xs i k)[j]? = some y) : xs[i + 1 + j]? = some y := by
  unfold seg at h
  rw [List.getElem?_take] at h
  split at h
  · rw [List.getElem?_drop] at h; exact h
  · cases h

theorem lastBr_seg {xs : List Wd} {i k : Nat} {y : Wd} (hik : i + 1 < k) (h : xs[k - 1]? = some y) : lastBr (seg xs i k) = isBr y := by
  obtain ⟨k, rfl⟩ : ∃ m, k = m + 1 := ⟨k - 1, by omega⟩
  simp only [Nat.add_sub_cancel] at h
  rw [seg_snoc h (by omega), lastBr_snoc]

/-- Between two rounds of the search for the end. -/
def Seek (xs : List Wd) (i k : Nat) : Prop := exec1 [] (xs.drop (i + 1)) = exec1 (seg xs i k) (xs.drop k)

theorem seek_start (xs : List Wd) (i : Nat) : Seek xs i (i + 1) := by unfold Seek; rw [seg_start]
theorem seek_go {xs : List Wd} {i k : Nat} {y : Wd} (h : Seek xs i k) (hik : i + 1 ≤ k) (hy : xs[k]? = some y) (hs : stop (seg xs i k) y = false) : Seek xs i (k + 1) := by
  unfold Seek at *
  rw [h, drop_get hy, exec1_go hs, seg_snoc hy hik]
theorem seek_stop {xs : List Wd} {i k : Nat} {y : Wd} (h : Seek xs i k) (hy : xs[k]? = some y) (hs : stop (seg xs i k) y = true) : exec1 [] (xs.drop (i + 1)) = some (seg xs i k, xs.drop (k + 1)) := by
  unfold Seek at h
  rw [h, drop_get hy, exec1_stop hs]
theorem seek_end {xs : List Wd} {i : Nat} (h : Seek xs i xs.length) : exec1 [] (xs.drop (i + 1)) = none := by
  unfold Seek at h
  rw [h, List.drop_length]; rfl

theorem step_del {xs d : List Wd} {c : List (List Wd)} {i : Nat} {x : Wd} {R : Option (List Wd × List (List Wd))} (h : find (xs.drop i) d c = R) (hx : xs[i]? = some x) (hd : isDel x = true) : find (xs.drop (i + 1)) (d ++ [x]) c = R := by
  rw [← h, drop_get hx, find_del hd]
theorem step_skip {xs d : List Wd} {c : List (List Wd)} {i : Nat} {x : Wd} {R : Option (List Wd × List (List Wd))} (h : find (xs.drop i) d c = R) (hx : xs[i]? = some x) (hd : isDel x = false) (he : isExec x.v = false) : find (xs.drop (i + 1)) d c = R := by
  rw [← h, drop_get hx, find_skip hd he]
theorem step_exec {xs d : List Wd} {c : List (List Wd)} {i k : Nat} {x y : Wd} {R : Option (List Wd × List (List Wd))} (h : find (xs.drop i) d c = R) (hx : xs[i]? = some x) (hd : isDel x = false) (he : isExec x.v = true)
    (hs : Seek xs i k) (hy : xs[k]? = some y) (hst : stop (seg xs i k) y = true) : find (xs.drop (k + 1)) d (c ++ [seg xs i k]) = R := by
  rw [← h, drop_get hx, find_exec hd he (seek_stop hs hy hst)]
theorem step_none {xs d : List Wd} {c : List (List Wd)} {i : Nat} {x : Wd} {R : Option (List Wd × List (List Wd))} (h : find (xs.drop i) d c = R) (hx : xs[i]? = some x) (hd : isDel x = false) (he : isExec x.v = true)
    (hs : Seek xs i xs.length) : R = none := by
  rw [← h, drop_get hx, find_none hd he (seek_end hs)]
theorem step_end {xs d : List Wd} {c : List (List Wd)} {R : Option (List Wd × List (List Wd))} (h : find (xs.drop xs.length) d c = R) : R = some (d, c) := by
  rw [← h, List.drop_length]; rfl
end Go.Proofs.Qxb6602309aMods
