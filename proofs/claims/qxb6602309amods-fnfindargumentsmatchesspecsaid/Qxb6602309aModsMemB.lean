import Derived.Test.Qxb6602309aModsMem
namespace Go.Proofs.Qxb6602309aMods
open Go.RowKit
set_option linter.unusedVariables false

theorem cell_other {w : World} {E i : Nat} {v : Value} {b o : Nat} (h : b ≠ E ∨ o ≠ i) : (w.setCell ⟨E, i, none⟩ v).cell? ⟨b, o, none⟩ = w.cell? ⟨b, o, none⟩ := by
  refine World.cell?_setCell_other w _ _ _ ?_
  intro e
  injection e with e1 e2 _
  rcases h with h | h
  · exact h e1.symm
  · exact h e2.symm

/-- The world behind the store of a word at ⟨E, o⟩. -/
def put5 (w : World) (E o : Nat) (x : Wd) : World :=
  ((((w.setCell ⟨E, o, none⟩ (.string x.v)).setCell ⟨E, o + 1, none⟩ (.int .i64 x.a)).setCell ⟨E, o + 2, none⟩ (.bool x.b)).setCell ⟨E, o + 3, none⟩ (.string x.t)).setCell ⟨E, o + 4, none⟩ (.bool x.o)

theorem put5_cell {w : World} {E o : Nat} {x : Wd} {b i : Nat} (h : b ≠ E ∨ i < o ∨ o + 5 ≤ i) : (put5 w E o x).cell? ⟨b, i, none⟩ = w.cell? ⟨b, i, none⟩ := by
  unfold put5
  rw [cell_other (by omega), cell_other (by omega), cell_other (by omega), cell_other (by omega), cell_other (by omega)]

theorem put5_old {w : World} {E o : Nat} {x : Wd} {b i : Nat} (h : ∃ v, w.cell? ⟨b, i, none⟩ = some v) : ∃ v, (put5 w E o x).cell? ⟨b, i, none⟩ = some v := by
  obtain ⟨v, h⟩ := h
  unfold put5
  obtain ⟨v1, h1⟩ := cell?_setCell_some (p := ⟨E, o, none⟩) (x := .string x.v) h
  obtain ⟨v2, h2⟩ := cell?_setCell_some (p := ⟨E, o + 1, none⟩) (x := .int .i64 x.a) h1
  obtain ⟨v3, h3⟩ := cell?_setCell_some (p := ⟨E, o + 2, none⟩) (x := .bool x.b) h2
  obtain ⟨v4, h4⟩ := cell?_setCell_some (p := ⟨E, o + 3, none⟩) (x := .string x.t) h3
  exact cell?_setCell_some h4

theorem put5_at {w : World} {E o : Nat} {x : Wd} (h : ∀ j, j < 5 → ∃ v, w.cell? ⟨E, o + j, none⟩ = some v) : At (put5 w E o x) E o x := by
  obtain ⟨v0, h0⟩ := h 0 (by omega)
  obtain ⟨v1, h1⟩ := h 1 (by omega)
  obtain ⟨v2, h2⟩ := h 2 (by omega)
  obtain ⟨v3, h3⟩ := h 3 (by omega)
  obtain ⟨v4, h4⟩ := h 4 (by omega)
  unfold put5
  refine ⟨?_, ?_, ?_, ?_, ?_⟩
  · rw [cell_other (by omega), cell_other (by omega), cell_other (by omega), cell_other (by omega)]
    exact World.cell?_setCell_same w _ _ h0
  · rw [cell_other (by omega), cell_other (by omega), cell_other (by omega)]
    exact World.cell?_setCell_same _ _ _ (by rw [cell_other (by omega)]; exact h1)
  · rw [cell_other (by omega), cell_other (by omega)]
    exact World.cell?_setCell_same _ _ _ (by rw [cell_other (by omega), cell_other (by omega)]; exact h2)
  · rw [cell_other (by omega)]
    exact World.cell?_setCell_same _ _ _ (by rw [cell_other (by omega), cell_other (by omega), cell_other (by omega)]; exact h3)
  · exact World.cell?_setCell_same _ _ _ (by rw [cell_other (by omega), cell_other (by omega), cell_other (by omega), cell_other (by omega)]; exact h4)

theorem put5_frozen {w : World} {E o : Nat} {x : Wd} (a : Addr) : (put5 w E o x).frozen? a = w.frozen? a := by
  unfold put5; simp only [World.frozen?_setCell]
theorem put5_size {w : World} {E o : Nat} {x : Wd} : (put5 w E o x).heap.size = w.heap.size := by unfold put5; simp
theorem put5_below {B : Nat} {a w : World} {E o : Nat} {x : Wd} (h : Below B a w) (hB : B ≤ E) : Below B a (put5 w E o x) :=
  ((((h.setCell (p := ⟨E, o, none⟩) hB _).setCell (p := ⟨E, o + 1, none⟩) hB _).setCell (p := ⟨E, o + 2, none⟩) hB _).setCell (p := ⟨E, o + 3, none⟩) hB _).setCell (p := ⟨E, o + 4, none⟩) hB _

/-- A row of words of the call's own, the first k filled. -/
structure Fill5 (w : World) (E len k : Nat) (xs : List Wd) : Prop where
  size : E < w.heap.size
  old : ∀ i, i < len * 5 → ∃ v, w.cell? ⟨E, i, none⟩ = some v
  free : ∀ i, w.frozen? ⟨E, i, none⟩ = false
  cell : ∀ i x, i < k → xs[i]? = some x → At w E (i * 5) x

theorem At.put5 {w : World} {b o' E o : Nat} {x y : Wd} (h : At w b o' y) (hd : b ≠ E ∨ o' + 5 ≤ o ∨ o + 5 ≤ o') : At (put5 w E o x) b o' y where
  c0 := (put5_cell (by omega)).trans h.c0
  c1 := (put5_cell (by omega)).trans h.c1
  c2 := (put5_cell (by omega)).trans h.c2
  c3 := (put5_cell (by omega)).trans h.c3
  c4 := (put5_cell (by omega)).trans h.c4

theorem Fill5.step {w : World} {E len k : Nat} {xs : List Wd} {x : Wd} (h : Fill5 w E len k xs) (hk : k < len) (hx : xs[k]? = some x) : Fill5 (put5 w E (k * 5) x) E len (k + 1) xs where
  size := by rw [put5_size]; exact h.size
  old i hi := put5_old (h.old i hi)
  free i := by rw [put5_frozen]; exact h.free i
  cell i y hi hy := by
    by_cases e : i = k
    · subst e
      rw [hx] at hy
      simp only [Option.some.injEq] at hy
      subst hy
      exact put5_at fun j hj => h.old _ (by omega)
    · exact (h.cell i y (by omega) hy).put5 (by omega)

theorem Fill5.wds {w : World} {E len : Nat} {xs : List Wd} (h : Fill5 w E len xs.length xs) : Wds w (some ⟨E, 0, none⟩) xs := fun i x hx => by
  have hi : i < xs.length := by
    rcases Nat.lt_or_ge i xs.length with h1 | h1
    · exact h1
    · rw [List.getElem?_eq_none h1] at hx; cases hx
  exact ⟨E, 0, rfl, by rw [Nat.zero_add]; exact h.cell i x hi hx⟩

theorem fill5_start {w : World} {cs : Array Value} {t : TypeId} {len : Nat} (xs : List Wd) (hs : cs.size = len * 5) : Fill5 (w.alloc (.cells cs t (0, 0))) w.heap.size len 0 xs := by
  have hg := heap_alloc_new w (.cells cs t (0, 0))
  refine ⟨by simp, fun i hi => ?_, fun i => frozen_of_row _ _ _ _ t hg, fun i x hi => by omega⟩
  rw [cell_of_row _ _ i _ t (0, 0) hg]
  exact ⟨_, Array.getElem?_eq_getElem (by omega)⟩

theorem Fill5.below {w w' : World} {E len k : Nat} {xs : List Wd} (h : Fill5 w E len k xs) (hb : Below w.heap.size w w') : Fill5 w' E len k xs where
  size := Nat.lt_of_lt_of_le h.size hb.size
  old i hi := by
    obtain ⟨v, hv⟩ := h.old i hi
    exact ⟨v, (hb.cell (p := ⟨E, i, none⟩) h.size).trans hv⟩
  free i := (hb.frozen (p := ⟨E, i, none⟩) h.size).trans (h.free i)
  cell i x hi hx := (h.cell i x hi hx).keep (hb.block E h.size)

/-- A slice of slices of the call's own, the first k filled; the words lie in younger blocks. -/
structure FillP (w : World) (O len k : Nat) (ps : List (List Wd)) : Prop where
  size : O < w.heap.size
  zero : ∀ i, k ≤ i → i < len → w.cell? ⟨O, i, none⟩ = some (.slice none 0 0)
  free : ∀ i, w.frozen? ⟨O, i, none⟩ = false
  cell : ∀ i p, i < k → ps[i]? = some p → ∃ pa pc, w.cell? ⟨O, i, none⟩ = some (.slice pa p.length pc) ∧ Wds w pa p ∧ ∀ x : Addr, pa = some x → O < x.block

theorem fillP_start {w : World} {t : TypeId} {len : Nat} (ps : List (List Wd)) : FillP (w.alloc (.cells (madeCells #[.slice none 0 0] len) t (0, 0))) w.heap.size len 0 ps := by
  have hg := heap_alloc_new w (.cells (madeCells #[.slice none 0 0] len) t (0, 0))
  refine ⟨by simp, fun i _ hi => ?_, fun i => frozen_of_row _ _ _ _ t hg, fun i x hi => by omega⟩
  rw [cell_of_row _ _ i _ t (0, 0) hg]
  simp [madeCells, hi, Nat.mod_one]

theorem FillP.below {w w' : World} {O len k : Nat} {ps : List (List Wd)} (h : FillP w O len k ps) (hb : Below w.heap.size w w') : FillP w' O len k ps where
  size := Nat.lt_of_lt_of_le h.size hb.size
  zero i h1 h2 := (hb.cell (p := ⟨O, i, none⟩) h.size).trans (h.zero i h1 h2)
  free i := (hb.frozen (p := ⟨O, i, none⟩) h.size).trans (h.free i)
  cell i p hi hp := by
    obtain ⟨pa, pc, h1, h2, h3⟩ := h.cell i p hi hp
    exact ⟨pa, pc, (hb.cell (p := ⟨O, i, none⟩) h.size).trans h1, h2.below hb, h3⟩

theorem Wds.set {w : World} {O i : Nat} {v : Value} {pa : Option Addr} {p : List Wd} (h : Wds w pa p) (hne : ∀ x : Addr, pa = some x → O ≠ x.block) : Wds (w.setCell ⟨O, i, none⟩ v) pa p := fun j x hx => by
  obtain ⟨b, off, e, hat⟩ := h j x hx
  refine ⟨b, off, e, hat.keep ?_⟩
  exact heap_setCell_other w _ b v (fun e2 => hne _ e e2.symm)

/-- The part is laid into its place. -/
theorem FillP.step {w : World} {O len k : Nat} {ps : List (List Wd)} {p : List Wd} {pa : Option Addr} {pc : Nat} (h : FillP w O len k ps) (hk : k < len) (hp : ps[k]? = some p) (hw : Wds w pa p) (hne : ∀ x : Addr, pa = some x → O < x.block) :
    FillP (w.setCell ⟨O, k, none⟩ (.slice pa p.length pc)) O len (k + 1) ps where
  size := by simpa using h.size
  zero i h1 h2 := by rw [cell_other (by omega)]; exact h.zero i (by omega) h2
  free i := by rw [World.frozen?_setCell]; exact h.free i
  cell i q hi hq := by
    by_cases e : i = k
    · subst e
      rw [hp] at hq
      simp only [Option.some.injEq] at hq
      subst hq
      exact ⟨pa, pc, World.cell?_setCell_same w _ _ (h.zero i (Nat.le_refl _) hk), hw.set (fun x hx => Nat.ne_of_lt (hne x hx)), hne⟩
    · obtain ⟨pa', pc', h1, h2, h3⟩ := h.cell i q (by omega) hq
      exact ⟨pa', pc', by rw [cell_other (by omega)]; exact h1, h2.set (fun x hx => Nat.ne_of_lt (h3 x hx)), h3⟩

/-- A part that is nil stays nil. -/
theorem FillP.skip {w : World} {O len k : Nat} {ps : List (List Wd)} (h : FillP w O len k ps) (hk : k < len) (hp : ps[k]? = some []) : FillP w O len (k + 1) ps where
  size := h.size
  zero i h1 h2 := h.zero i (by omega) h2
  free := h.free
  cell i q hi hq := by
    by_cases e : i = k
    · subst e
      rw [hp] at hq
      simp only [Option.some.injEq] at hq
      subst hq
      exact ⟨none, 0, h.zero i (Nat.le_refl _) hk, wds_nil _ _, fun x hx => by cases hx⟩
    · exact h.cell i q (by omega) hq

theorem FillP.pts {w : World} {O len : Nat} {ps : List (List Wd)} (h : FillP w O len ps.length ps) : Pts w (some ⟨O, 0, none⟩) ps := fun i p hp => by
  have hi : i < ps.length := by
    rcases Nat.lt_or_ge i ps.length with h1 | h1
    · exact h1
    · rw [List.getElem?_eq_none h1] at hp; cases hp
  obtain ⟨pa, pc, h1, h2, h3⟩ := h.cell i p hi hp
  exact ⟨O, 0, pa, pc, rfl, by rw [Nat.zero_add]; exact h1, h2⟩

theorem nil_of_none {w : World} {p : List Wd} (h : Wds w none p) : p = [] := by
  cases p with
  | nil => rfl
  | cons x l =>
    obtain ⟨b, off, e, _⟩ := h 0 x rfl
    cases e
end Go.Proofs.Qxb6602309aMods
