import Derived.Test.Qxb6602309aModsMemD
namespace Go.Proofs.Qxb6602309aMods
open Go.RowKit
set_option linter.unusedVariables false

/-- What lay there stands, but for the blocks X and Q. -/
structure Fr (w w' : World) (X Q : Nat) : Prop where
  os : w'.os = w.os
  tape : w'.tape = w.tape
  output : w'.output = w.output
  size : w.heap.size ≤ w'.heap.size
  block : ∀ k, k < w.heap.size → k ≠ X → k ≠ Q → w'.heap[k]? = w.heap[k]?

theorem Fr.refl (w : World) (X Q : Nat) : Fr w w X Q := ⟨rfl, rfl, rfl, Nat.le_refl _, fun _ _ _ _ => rfl⟩
theorem Fr.trans {a b c : World} {X Q : Nat} (h : Fr a b X Q) (k : Fr b c X Q) : Fr a c X Q :=
  ⟨k.os.trans h.os, k.tape.trans h.tape, k.output.trans h.output, Nat.le_trans h.size k.size, fun i hi h1 h2 => (k.block i (Nat.lt_of_lt_of_le hi h.size) h1 h2).trans (h.block i hi h1 h2)⟩
theorem Fr.alloc {a w : World} {X Q : Nat} (h : Fr a w X Q) (o : Obj) : Fr a (w.alloc o) X Q :=
  ⟨h.os, h.tape, h.output, by simp; exact Nat.le_succ_of_le h.size, fun i hi h1 h2 => (Below.heap_alloc w o i (Nat.lt_of_lt_of_le hi h.size)).trans (h.block i hi h1 h2)⟩
theorem Fr.drew {a w : World} {X Q : Nat} (h : Fr a w X Q) : Fr a w.drew X Q := ⟨h.os, h.tape, h.output, h.size, h.block⟩
theorem Fr.drewN {a w : World} {X Q : Nat} (h : Fr a w X Q) (n : Nat) : Fr a (w.drewN n) X Q := ⟨h.os, h.tape, h.output, h.size, h.block⟩
theorem Fr.setX {a w : World} {X Q : Nat} (h : Fr a w X Q) (o : Nat) (v : Value) : Fr a (w.setCell ⟨X, o, none⟩ v) X Q :=
  ⟨h.os, h.tape, h.output, by simpa using h.size, fun i hi h1 h2 => (heap_setCell_other w _ i v h1).trans (h.block i hi h1 h2)⟩
theorem Fr.setQ {a w : World} {X Q : Nat} (h : Fr a w X Q) (o : Nat) (v : Value) : Fr a (w.setCell ⟨Q, o, none⟩ v) X Q :=
  ⟨h.os, h.tape, h.output, by simpa using h.size, fun i hi h1 h2 => (heap_setCell_other w _ i v h2).trans (h.block i hi h1 h2)⟩
theorem Fr.setNew {a w : World} {X Q E : Nat} (h : Fr a w X Q) (hE : a.heap.size ≤ E) (o : Nat) (v : Value) : Fr a (w.setCell ⟨E, o, none⟩ v) X Q :=
  ⟨h.os, h.tape, h.output, by simpa using h.size, fun i hi h1 h2 => (heap_setCell_other w _ i v (fun e => by have : i = E := e; omega)).trans (h.block i hi h1 h2)⟩
theorem Fr.grown {a w w' : World} {X Q : Nat} {v : Value} (h : Fr a w X Q) (hg : w.grownBy w' v.ownBlock) (hv : ∀ g, v.ownBlock = some g → a.heap.size ≤ g) : Fr a w' X Q :=
  ⟨hg.os.trans h.os, hg.tape.trans h.tape, hg.output.trans h.output, Nat.le_trans h.size hg.size, fun i hi h1 h2 => (hg.block i (Nat.lt_of_lt_of_le hi h.size) (fun e => by have := hv i e.symm; omega)).trans (h.block i hi h1 h2)⟩
theorem Fr.ofBelow {w w' : World} {X Q : Nat} (h : Below w.heap.size w w') : Fr w w' X Q := ⟨h.os, h.tape, h.output, h.size, fun k hk _ _ => h.block k hk⟩

/-- A queue: X holds the slice, Q the parts; all below B. -/
structure Que (w : World) (B X Q N : Nat) (ps : List (List Wd)) : Prop where
  ex : ∃ qa, w.cell? ⟨X, 0, none⟩ = some (.slice qa ps.length N) ∧ (ps ≠ [] → qa = some ⟨Q, 0, none⟩)
  freeX : w.frozen? ⟨X, 0, none⟩ = false
  cap : ps.length ≤ N
  part : ∀ i p, ps[i]? = some p → ∃ pa pc, w.cell? ⟨Q, i, none⟩ = some (.slice pa p.length pc) ∧ Wds w pa p ∧ p.length ≤ pc ∧ ∀ x : Addr, pa = some x → x.block ≠ Q ∧ x.block ≠ X ∧ x.block < B
  freeQ : ∀ i, w.frozen? ⟨Q, i, none⟩ = false
  ne : ps ≠ [] → X ≠ Q
  hX : X < B
  hQ : Q < B
  nle : ps.length ≤ 1048576
  tle : (flat ps).length ≤ 1048576

theorem Wds.keep {w w' : World} {pa : Option Addr} {p : List Wd} (h : Wds w pa p) (hb : ∀ x : Addr, pa = some x → w'.heap[x.block]? = w.heap[x.block]?) : Wds w' pa p := fun i x hx => by
  obtain ⟨b, off, e, hat⟩ := h i x hx
  exact ⟨b, off, e, hat.keep (hb _ e)⟩

theorem Que.keep {w w' : World} {B X Q N : Nat} {ps : List (List Wd)} (h : Que w B X Q N ps) (hb : ∀ k, k < B → w'.heap[k]? = w.heap[k]?) : Que w' B X Q N ps where
  ex := by
    obtain ⟨qa, h1, h2⟩ := h.ex
    exact ⟨qa, (World.cell?_of_block (a := ⟨X, 0, none⟩) (hb X h.hX)).trans h1, h2⟩
  freeX := (World.frozen?_of_block (a := ⟨X, 0, none⟩) (hb X h.hX)).trans h.freeX
  cap := h.cap
  part i p hp := by
    obtain ⟨pa, pc, h1, h2, h3, h4⟩ := h.part i p hp
    exact ⟨pa, pc, (World.cell?_of_block (a := ⟨Q, i, none⟩) (hb Q h.hQ)).trans h1, h2.keep (fun x hx => hb _ (h4 x hx).2.2), h3, h4⟩
  freeQ i := (World.frozen?_of_block (a := ⟨Q, i, none⟩) (hb Q h.hQ)).trans (h.freeQ i)
  ne := h.ne
  hX := h.hX
  hQ := h.hQ
  nle := h.nle
  tle := h.tle

theorem Que.alloc {w : World} {B X Q N : Nat} {ps : List (List Wd)} (h : Que w B X Q N ps) (hB : B ≤ w.heap.size) (o : Obj) : Que (w.alloc o) B X Q N ps :=
  h.keep fun k hk => Below.heap_alloc w o k (by omega)
theorem Que.drewN {w : World} {B X Q N : Nat} {ps : List (List Wd)} (h : Que w B X Q N ps) (n : Nat) : Que (w.drewN n) B X Q N ps := h.keep fun k hk => rfl
theorem Que.grown {w w' : World} {B X Q N : Nat} {ps : List (List Wd)} {v : Value} (h : Que w B X Q N ps) (hB : B ≤ w.heap.size) (hg : w.grownBy w' v.ownBlock) (hv : ∀ g, v.ownBlock = some g → B ≤ g) : Que w' B X Q N ps :=
  h.keep fun k hk => hg.block k (by omega) (fun e => by have := hv k e.symm; omega)
theorem Que.setNew {w : World} {B X Q N E : Nat} {ps : List (List Wd)} (h : Que w B X Q N ps) (hE : B ≤ E) (o : Nat) (v : Value) : Que (w.setCell ⟨E, o, none⟩ v) B X Q N ps :=
  h.keep fun k hk => heap_setCell_other w _ k v (fun e => by have : k = E := e; omega)

theorem flat_drop_empty (ps : List (List Wd)) : flat (ps ++ [[]]) = flat ps := by simp [flat]

/-- The last part is empty: it is cut off. -/
theorem Que.cut {w : World} {B X Q N : Nat} {ps : List (List Wd)} (h : Que w B X Q N (ps ++ [[]])) : Que (w.setCell ⟨X, 0, none⟩ (.slice (some ⟨Q, 0, none⟩) ps.length N)) B X Q N ps where
  ex := by
    obtain ⟨qa, h1, _⟩ := h.ex
    exact ⟨_, World.cell?_setCell_same w _ _ h1, fun _ => rfl⟩
  freeX := by rw [World.frozen?_setCell]; exact h.freeX
  cap := by have := h.cap; simp at this; omega
  part i p hp := by
    have hi := lt_of_get hp
    obtain ⟨pa, pc, h1, h2, h3, h4⟩ := h.part i p (by rw [List.getElem?_append_left hi]; exact hp)
    refine ⟨pa, pc, ?_, h2.keep (fun x hx => heap_setCell_other w _ _ _ (h4 x hx).2.1), h3, h4⟩
    rw [World.cell?_setCell_other w _ _ _ (by intro e; injection e with e1 _ _; exact h.ne (by simp) e1)]
    exact h1
  freeQ i := by rw [World.frozen?_setCell]; exact h.freeQ i
  ne := fun _ => h.ne (by simp)
  hX := h.hX
  hQ := h.hQ
  nle := by have := h.nle; simp at this; omega
  tle := by have := h.tle; rw [flat_drop_empty] at this; exact this

/-- The first word of the last part is taken. -/
theorem Que.take {w : World} {B X Q N : Nat} {ps : List (List Wd)} {x : Wd} {p : List Wd} {pa : Option Addr} {pc : Nat} (h : Que w B X Q N (ps ++ [x :: p])) (hw : Wds w pa p) (hpc : p.length ≤ pc)
    (hpa : ∀ y : Addr, pa = some y → y.block ≠ Q ∧ y.block ≠ X ∧ y.block < B) : Que (w.setCell ⟨Q, ps.length, none⟩ (.slice pa p.length pc)) B X Q N (ps ++ [p]) where
  ex := by
    obtain ⟨qa, h1, h2⟩ := h.ex
    refine ⟨qa, ?_, fun _ => h2 (by simp)⟩
    rw [World.cell?_setCell_other w _ _ _ (by intro e; injection e with e1 _ _; exact h.ne (by simp) e1.symm), h1]
    simp
  freeX := by rw [World.frozen?_setCell]; exact h.freeX
  cap := by have := h.cap; simp at this ⊢; omega
  part i q hq := by
    have hi := lt_of_get hq
    simp only [List.length_append, List.length_cons, List.length_nil] at hi
    by_cases e : i < ps.length
    · rw [List.getElem?_append_left e] at hq
      obtain ⟨pa', pc', h1, h2, h3, h4⟩ := h.part i q (by rw [List.getElem?_append_left e]; exact hq)
      refine ⟨pa', pc', ?_, h2.keep (fun x hx => heap_setCell_other w _ _ _ (h4 x hx).1), h3, h4⟩
      rw [World.cell?_setCell_other w _ _ _ (by intro e2; injection e2 with _ e3 _; omega)]
      exact h1
    · obtain rfl : i = ps.length := by omega
      rw [List.getElem?_append_right (Nat.le_refl _)] at hq
      simp only [Nat.sub_self, List.getElem?_cons_zero, Option.some.injEq] at hq
      subst hq
      obtain ⟨pa', pc', h1, h2, h3, h4⟩ := h.part ps.length (x :: p) (by rw [List.getElem?_append_right (Nat.le_refl _)]; simp)
      exact ⟨pa, pc, World.cell?_setCell_same w _ _ h1, hw.keep (fun x hx => heap_setCell_other w _ _ _ (hpa x hx).1), hpc, hpa⟩
  freeQ i := by rw [World.frozen?_setCell]; exact h.freeQ i
  ne := fun _ => h.ne (by simp)
  hX := h.hX
  hQ := h.hQ
  nle := by have := h.nle; simp at this ⊢; omega
  tle := by have := h.tle; rw [flat_snoc] at this ⊢; simp at this ⊢; omega

theorem wds_tail {w : World} {b off : Nat} {x : Wd} {p : List Wd} (h : Wds w (some ⟨b, off, none⟩) (x :: p)) : Wds w (some ⟨b, off + 5, none⟩) p := fun i y hy => by
  obtain ⟨b', off', e, hat⟩ := h (i + 1) y (by simpa using hy)
  simp only [Option.some.injEq, Addr.mk.injEq, and_true] at e
  obtain ⟨rfl, rfl⟩ := e
  exact ⟨b, off + 5, rfl, by rw [show off + 5 + i * 5 = off + (i + 1) * 5 from by omega]; exact hat⟩
end Go.Proofs.Qxb6602309aMods
