import Derived.Test.Qxb6602309aModsMemF
import Derived.Test.Qxb6602309aModsWalkJ
namespace Go.Proofs.Qxb6602309aMods
open Go.RowKit
set_option linter.unusedVariables false

/-- A queue of the call's own, the first k parts filled; the words lie in younger blocks. -/
structure FillQ (w : World) (O len k : Nat) (ps : List (List Wd)) : Prop where
  size : O < w.heap.size
  zero : ∀ i, k ≤ i → i < len → w.cell? ⟨O, i, none⟩ = some (.slice none 0 0)
  free : ∀ i, w.frozen? ⟨O, i, none⟩ = false
  cell : ∀ i p, i < k → ps[i]? = some p → ∃ pa pc, w.cell? ⟨O, i, none⟩ = some (.slice pa p.length pc) ∧ Wds w pa p ∧ p.length ≤ pc ∧ ∀ x : Addr, pa = some x → O < x.block ∧ x.block < w.heap.size

theorem fillQ_start {w : World} {t : TypeId} {len : Nat} (ps : List (List Wd)) : FillQ (w.alloc (.cells (madeCells #[.slice none 0 0] len) t (0, 0))) w.heap.size len 0 ps := by
  have hg := heap_alloc_new w (.cells (madeCells #[.slice none 0 0] len) t (0, 0))
  refine ⟨by simp, fun i _ hi => ?_, fun i => frozen_of_row _ _ _ _ t hg, fun i x hi => by omega⟩
  rw [cell_of_row _ _ i _ t (0, 0) hg]
  simp [madeCells, hi, Nat.mod_one]

theorem FillQ.below {w w' : World} {O len k : Nat} {ps : List (List Wd)} (h : FillQ w O len k ps) (hb : Below w.heap.size w w') : FillQ w' O len k ps where
  size := Nat.lt_of_lt_of_le h.size hb.size
  zero i h1 h2 := (hb.cell (p := ⟨O, i, none⟩) h.size).trans (h.zero i h1 h2)
  free i := (hb.frozen (p := ⟨O, i, none⟩) h.size).trans (h.free i)
  cell i p hi hp := by
    obtain ⟨pa, pc, h1, h2, h3, h4⟩ := h.cell i p hi hp
    exact ⟨pa, pc, (hb.cell (p := ⟨O, i, none⟩) h.size).trans h1, h2.below hb, h3, fun x hx => ⟨(h4 x hx).1, Nat.lt_of_lt_of_le (h4 x hx).2 hb.size⟩⟩

theorem FillQ.step {w : World} {O len k : Nat} {ps : List (List Wd)} {p : List Wd} {pa : Option Addr} {pc : Nat} (h : FillQ w O len k ps) (hk : k < len) (hp : ps[k]? = some p) (hw : Wds w pa p) (hpc : p.length ≤ pc) (hne : ∀ x : Addr, pa = some x → O < x.block ∧ x.block < w.heap.size) :
    FillQ (w.setCell ⟨O, k, none⟩ (.slice pa p.length pc)) O len (k + 1) ps where
  size := by simpa using h.size
  zero i h1 h2 := by rw [cell_other (by omega)]; exact h.zero i (by omega) h2
  free i := by rw [World.frozen?_setCell]; exact h.free i
  cell i q hi hq := by
    by_cases e : i = k
    · subst e
      rw [hp] at hq
      simp only [Option.some.injEq] at hq
      subst hq
      exact ⟨pa, pc, World.cell?_setCell_same w _ _ (h.zero i (Nat.le_refl _) hk), hw.set (fun x hx => Nat.ne_of_lt (hne x hx).1), hpc, fun x hx => by simpa using hne x hx⟩
    · obtain ⟨pa', pc', h1, h2, h3, h4⟩ := h.cell i q (by omega) hq
      exact ⟨pa', pc', by rw [cell_other (by omega)]; exact h1, h2.set (fun x hx => Nat.ne_of_lt (h4 x hx).1), h3, fun x hx => by simpa using h4 x hx⟩

theorem FillQ.skip {w : World} {O len k : Nat} {ps : List (List Wd)} (h : FillQ w O len k ps) (hk : k < len) (hp : ps[k]? = some []) : FillQ w O len (k + 1) ps where
  size := h.size
  zero i h1 h2 := h.zero i (by omega) h2
  free := h.free
  cell i q hi hq := by
    by_cases e : i = k
    · subst e
      rw [hp] at hq
      simp only [Option.some.injEq] at hq
      subst hq
      exact ⟨none, 0, h.zero i (Nat.le_refl _) hk, wds_nil _ _, by simp, fun x hx => by cases hx⟩
    · exact h.cell i q (by omega) hq

/-- The filled queue, boxed. -/
theorem FillQ.que {w : World} {O : Nat} {ps : List (List Wd)} (h : FillQ w O ps.length ps.length ps) (hn : ps.length ≤ 1048576) (ht : (flat ps).length ≤ 1048576) :
    Que (w.alloc (.cells #[.slice (some ⟨O, 0, none⟩) ps.length ps.length] 42 (0, 0))) (w.heap.size + 1) w.heap.size O ps.length ps := by
  have hO := h.size
  have hg := heap_alloc_new w (.cells #[.slice (some ⟨O, 0, none⟩) ps.length ps.length] 42 (0, 0))
  have hb : Below w.heap.size w (w.alloc (.cells #[.slice (some ⟨O, 0, none⟩) ps.length ps.length] 42 (0, 0))) := (Below.refl _ _).alloc (Nat.le_refl _) _
  have h' := h.below hb
  refine ⟨⟨_, cell_new1 _ _ _, fun _ => rfl⟩, frozen_of_row _ _ _ _ 42 hg, Nat.le_refl _, fun i p hp => ?_, h'.free, fun _ => by omega, by omega, by omega, hn, ht⟩
  obtain ⟨pa, pc, h1, h2, h3, h4⟩ := h'.cell i p (lt_of_get hp) hp
  obtain ⟨pa2, pc2, g1, g2, g3, g4⟩ := h.cell i p (lt_of_get hp) hp
  have e1 := (hb.cell (p := ⟨O, i, none⟩) h.size).trans g1
  rw [h1] at e1
  simp only [Option.some.injEq, Value.slice.injEq] at e1
  obtain ⟨rfl, _, rfl⟩ := e1
  exact ⟨pa, pc, h1, h2, h3, fun x hx => by have := g4 x hx; omega⟩

/-- The nil queue, boxed. -/
theorem que_nil (w : World) : Que (w.alloc (.cells #[.slice none 0 0] 42 (0, 0))) (w.heap.size + 1) w.heap.size w.heap.size 0 [] := by
  have hg := heap_alloc_new w (.cells #[.slice none 0 0] 42 (0, 0))
  exact ⟨⟨_, cell_new1 _ _ _, fun h => absurd rfl h⟩, frozen_of_row _ _ _ _ 42 hg, Nat.le_refl _, fun i p hp => by simp at hp, fun i => frozen_of_row _ _ _ _ 42 hg, fun h => absurd rfl h, by omega, by omega, by simp, by simp [flat]⟩

theorem Fr.below {w w1 w' : World} {X Q : Nat} (h : Fr w1 w' X Q) (hb : Below w.heap.size w w1) (hX : w.heap.size ≤ X) (hQ : w.heap.size ≤ Q) : Below w.heap.size w w' :=
  hb.trans ⟨h.os, h.tape, h.output, h.size, fun k hk => h.block k (Nat.lt_of_lt_of_le hk hb.size) (by omega) (by omega)⟩

/-- Commands as they are handed out: each a slice of one part. -/
def Cmds (w : World) (a : Option Addr) (c : List (List Wd)) : Prop :=
  ∀ i p, c[i]? = some p → ∃ b off K pa pc, a = some ⟨b, off, none⟩ ∧ w.cell? ⟨b, off + i, none⟩ = some (.slice (some ⟨K, 0, none⟩) 1 1) ∧ w.cell? ⟨K, 0, none⟩ = some (.slice pa p.length pc) ∧ Wds w pa p

theorem Cmds.below {w w' : World} {a : Option Addr} {c : List (List Wd)} (h : Cmds w a c) (hb : Below w.heap.size w w') : Cmds w' a c := fun i p hp => by
  obtain ⟨b, off, K, pa, pc, e, h1, h2, h3⟩ := h i p hp
  exact ⟨b, off, K, pa, pc, e, (hb.cell (p := ⟨b, off + i, none⟩) (block_lt_of_cell h1)).trans h1, (hb.cell (p := ⟨K, 0, none⟩) (block_lt_of_cell h2)).trans h2, h3.below hb⟩

/-- The commands under way: the first k handed out. -/
structure FillC (w : World) (O len k : Nat) (c : List (List Wd)) : Prop where
  size : O < w.heap.size
  old : ∀ i, i < len → ∃ v, w.cell? ⟨O, i, none⟩ = some v
  free : ∀ i, w.frozen? ⟨O, i, none⟩ = false
  cell : ∀ i p, i < k → c[i]? = some p → ∃ K pa pc, w.cell? ⟨O, i, none⟩ = some (.slice (some ⟨K, 0, none⟩) 1 1) ∧ w.cell? ⟨K, 0, none⟩ = some (.slice pa p.length pc) ∧ Wds w pa p ∧ O < K ∧ ∀ x : Addr, pa = some x → O ≠ x.block

theorem fillC_start {w : World} {t : TypeId} {len : Nat} (c : List (List Wd)) : FillC (w.alloc (.cells (madeCells #[.slice none 0 0] len) t (0, 0))) w.heap.size len 0 c := by
  have hg := heap_alloc_new w (.cells (madeCells #[.slice none 0 0] len) t (0, 0))
  refine ⟨by simp, fun i hi => ?_, fun i => frozen_of_row _ _ _ _ t hg, fun i x hi => by omega⟩
  rw [cell_of_row _ _ i _ t (0, 0) hg]
  exact ⟨_, Array.getElem?_eq_getElem (by rw [size_madeCells]; exact hi)⟩

theorem FillC.below {w w' : World} {O len k : Nat} {c : List (List Wd)} (h : FillC w O len k c) (hb : Below w.heap.size w w') : FillC w' O len k c where
  size := Nat.lt_of_lt_of_le h.size hb.size
  old i hi := by
    obtain ⟨v, hv⟩ := h.old i hi
    exact ⟨v, (hb.cell (p := ⟨O, i, none⟩) h.size).trans hv⟩
  free i := (hb.frozen (p := ⟨O, i, none⟩) h.size).trans (h.free i)
  cell i p hi hp := by
    obtain ⟨K, pa, pc, h1, h2, h3, h4⟩ := h.cell i p hi hp
    exact ⟨K, pa, pc, (hb.cell (p := ⟨O, i, none⟩) h.size).trans h1, (hb.cell (p := ⟨K, 0, none⟩) (block_lt_of_cell h2)).trans h2, h3.below hb, h4⟩

theorem FillC.step {w : World} {O len k : Nat} {c : List (List Wd)} {p : List Wd} {K pc : Nat} {pa : Option Addr} (h : FillC w O len k c) (hk : k < len) (hp : c[k]? = some p) (hK : O < K)
    (hc : w.cell? ⟨K, 0, none⟩ = some (.slice pa p.length pc)) (hw : Wds w pa p) (hne : ∀ x : Addr, pa = some x → O ≠ x.block) :
    FillC (w.setCell ⟨O, k, none⟩ (.slice (some ⟨K, 0, none⟩) 1 1)) O len (k + 1) c where
  size := by simpa using h.size
  old i hi := by
    obtain ⟨v, hv⟩ := h.old i hi
    exact cell?_setCell_some hv
  free i := by rw [World.frozen?_setCell]; exact h.free i
  cell i q hi hq := by
    by_cases e : i = k
    · subst e
      rw [hp] at hq
      simp only [Option.some.injEq] at hq
      subst hq
      obtain ⟨v, hv⟩ := h.old i hk
      exact ⟨K, pa, pc, World.cell?_setCell_same w _ _ hv, by rw [cell_other (by omega)]; exact hc, hw.set hne, hK, hne⟩
    · obtain ⟨K', pa', pc', h1, h2, h3, h4, h5⟩ := h.cell i q (by omega) hq
      exact ⟨K', pa', pc', by rw [cell_other (by omega)]; exact h1, by rw [cell_other (by omega)]; exact h2, h3.set h5, h4, h5⟩

theorem FillC.cmds {w : World} {O len : Nat} {c : List (List Wd)} (h : FillC w O len c.length c) : Cmds w (some ⟨O, 0, none⟩) c := fun i p hp => by
  obtain ⟨K, pa, pc, h1, h2, h3, h4⟩ := h.cell i p (lt_of_get hp) hp
  exact ⟨O, 0, K, pa, pc, rfl, by rw [Nat.zero_add]; exact h1, h2, h3⟩

theorem cmds_nil (w : World) (a : Option Addr) : Cmds w a [] := fun i p h => by simp at h

/-- What ZZFindArguments answers. -/
def ZZ (w : World) (R : Option (List Wd × List (List Wd))) (e : Ending) (w' : World) : Prop :=
  Below w.heap.size w w' ∧
  ((R = none ∧ e = .returned (.tuple #[.slice none 0 0, .slice none 0 0])) ∨
   ∃ d c da ca, R = some (d, c) ∧ e = .returned (.tuple #[.slice da d.length d.length, .slice ca c.length c.length]) ∧ Wds w' da d ∧ Cmds w' ca c ∧ (d = [] → da = none) ∧ (c = [] → ca = none) ∧ d.length ≤ 1048576 ∧ c.length ≤ 1048576)

/-- What the walk may read of the commands. -/
theorem CmdRow.shape {w : World} {B : Nat} {dv cv : Value} {c : List (List Wd)} (h : CmdRow w B dv cv c) :
    (cv = .slice none 0 0 ∧ c = []) ∨ ∃ g cap, cv = .slice (some ⟨g, 0, none⟩) c.length cap ∧ g < w.heap.size ∧ ∀ i p, c[i]? = some p → ∃ K pa pc, w.cell? ⟨g, i, none⟩ = some (.slice (some ⟨K, 0, none⟩) 1 1) ∧ K < w.heap.size ∧ w.cell? ⟨K, 0, none⟩ = some (.slice pa p.length pc) ∧ Wds w pa p ∧ p.length ≤ 1048576 := by
  obtain ⟨cs, h1, h2⟩ := h
  rcases h1.2 with ⟨h3, h4⟩ | ⟨g, cap, cur, h3, _, hg, hnc, hcm, hcs, htake⟩
  · exact .inl ⟨h3, List.eq_nil_of_length_eq_zero h4⟩
  · refine .inr ⟨g, cap, h3, (Array.getElem?_eq_some_iff.1 hg).1, fun i p hp => ?_⟩
    obtain ⟨K, h5, h6⟩ := h2 i p hp
    obtain ⟨_, a2, _, _, a5, pa, pc, a6, a7, _⟩ := h6
    have hi := lt_of_get hp
    subst h3
    refine ⟨K, pa, pc, ?_, a2, a6, a7, a5⟩
    rw [World.ownsRow.cellAt h1 i (by omega), h5]
end Go.Proofs.Qxb6602309aMods
