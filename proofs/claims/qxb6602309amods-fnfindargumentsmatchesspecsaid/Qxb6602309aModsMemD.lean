import Derived.Test.Qxb6602309aModsMemC
import Derived.Test.Qxb6602309aModsPlainB
namespace Go.Proofs.Qxb6602309aMods
open Go.RowKit
set_option linter.unusedVariables false

/-- Two rows of different element types lie in different blocks. -/
theorem own_ne {w : World} {e1 e2 s1 s2 n1 n2 : Nat} {v1 v2 : Value} {x1 x2 : List Value} (h1 : w.ownsRow 0 e1 s1 v1 n1 x1) (h2 : w.ownsRow 0 e2 s2 v2 n2 x2) (hne : e1 ≠ e2) : v1.ownBlock = none ∨ v1.ownBlock ≠ v2.ownBlock := by
  rcases h1.2 with ⟨rfl, _⟩ | ⟨g, cap, cur, rfl, _, hg, _⟩
  · exact .inl rfl
  · rcases h2.2 with ⟨rfl, _⟩ | ⟨g2, cap2, cur2, rfl, _, hg2, _⟩
    · right; simp [Value.ownBlock]
    · right
      simp only [Value.ownBlock, ne_eq, Option.some.injEq]
      intro e
      subst e
      rw [hg] at hg2
      simp only [Option.some.injEq, Obj.cells.injEq] at hg2
      exact hne hg2.2.1

/-- A row of slices of words; the words lie in a world that does not turn. -/
def OwnC (w0 w : World) (e : TypeId) (cv : Value) (c : List (List Wd)) : Prop :=
  ∃ cs : List Value, w.ownsRow 0 e 1 cv c.length cs ∧ ∀ (i : Nat) (p : List Wd), c[i]? = some p → ∃ pa pc, cs[i]? = some (Value.slice pa p.length pc) ∧ Wds w0 pa p

theorem ownC_nil (w0 w : World) (e : TypeId) : OwnC w0 w e (.slice none 0 0) [] := ⟨[], World.ownsRow_nil w 0 e 1, fun i p h => by simp at h⟩

theorem OwnC.alloc {w0 w : World} {e : TypeId} {cv : Value} {c : List (List Wd)} (h : OwnC w0 w e cv c) (o : Obj) : OwnC w0 (w.alloc o) e cv c := by
  obtain ⟨cs, h1, h2⟩ := h
  exact ⟨cs, h1.alloc o, h2⟩

theorem OwnC.kept {w0 w w' : World} {e : TypeId} {cv : Value} {c : List (List Wd)} {row : Option Nat} (h : OwnC w0 w e cv c) (hg : w.grownBy w' row) (hne : cv.ownBlock = none ∨ cv.ownBlock ≠ row) : OwnC w0 w' e cv c := by
  obtain ⟨cs, h1, h2⟩ := h
  exact ⟨cs, h1.kept hg hne, h2⟩

theorem ownW_kept_c {w0 w w' : World} {e1 e2 : TypeId} {dv cv : Value} {d : List Wd} {c : List (List Wd)} (hd : OwnW w e1 dv d) (hc : OwnC w0 w e2 cv c) (hne : e1 ≠ e2) (hg : w.grownBy w' cv.ownBlock) : OwnW w' e1 dv d := by
  obtain ⟨cs, h1, h2⟩ := hc
  exact World.ownsRow.kept hd hg (own_ne hd h1 hne)
theorem ownC_kept_w {w0 w w' : World} {e1 e2 : TypeId} {dv cv : Value} {d : List Wd} {c : List (List Wd)} (hd : OwnW w e1 dv d) (hc : OwnC w0 w e2 cv c) (hne : e1 ≠ e2) (hg : w.grownBy w' dv.ownBlock) : OwnC w0 w' e2 cv c := by
  obtain ⟨cs, h1, h2⟩ := hc
  exact ⟨cs, h1.kept hg (own_ne h1 hd (fun e => hne e.symm)), h2⟩

theorem OwnC.shape {w0 w : World} {e : TypeId} {cv : Value} {c : List (List Wd)} (h : OwnC w0 w e cv c) (hb : Below w0.heap.size w0 w) :
    (cv = .slice none 0 0 ∧ c = []) ∨ ∃ g cap, cv = .slice (some ⟨g, 0, none⟩) c.length cap ∧ Pts w (some ⟨g, 0, none⟩) c := by
  obtain ⟨cs, h1, h2⟩ := h
  rcases h1.2 with ⟨h3, h4⟩ | ⟨g, cap, cur, h3, _, hg, hnc, hcm, hcs, htake⟩
  · exact .inl ⟨h3, List.eq_nil_of_length_eq_zero h4⟩
  · refine .inr ⟨g, cap, h3, fun i p hp => ?_⟩
    obtain ⟨pa, pc, h5, h6⟩ := h2 i p hp
    have hi := lt_of_get hp
    subst h3
    refine ⟨g, 0, pa, pc, rfl, ?_, h6.below hb⟩
    rw [Nat.zero_add, World.ownsRow.cellAt h1 i (by omega), h5]

/-- One slice is appended. -/
theorem wpList_appC (w0 w : World) {ops : Array Oper} {rest : List Oper} {o : Oper} {a : Act} {Q : Exit → Act → World → Prop} (hgd : o.guard = none) (s x : Operand) (t : TypeId)
    (ho : o.op = .call { callee := .builtin .append, args := #[s, x], argTypes := #[t, t] })
    (e : TypeId) (ht : Trym.prog.underlying t = some (.slice e))
    (hinfo : (Trym.prog.info? e).map (fun i => (i.zero, i.size, i.bytes)) = some (some (.slice none 0 0), 1, 24))
    (cv : Value) (c : List (List Wd)) (hs : a.eval s = cv) (hown : OwnC w0 w e cv c) (hn : c.length ≤ 1048576)
    (b c2 : Nat) (p : List Wd) (pa : Option Addr) (pc : Nat) (hx : a.eval x = .slice (some ⟨b, 0, none⟩) 1 c2) (hat : w.cell? ⟨b, 0, none⟩ = some (.slice pa p.length pc)) (hw : Wds w0 pa p)
    (h : ∀ w' g cap, OwnC w0 w' e (.slice (some ⟨g, 0, none⟩) (c.length + 1) cap) (c ++ [p]) → w.grownBy w' cv.ownBlock → (some g = cv.ownBlock ∨ g = w.heap.size) → wpList Trym.prog ops Q rest (a.put o.dst (.slice (some ⟨g, 0, none⟩) (c.length + 1) cap)) w') :
    wpList Trym.prog ops Q (o :: rest) a w := by
  obtain ⟨cs, h1, h2⟩ := hown
  refine wpList_app w hgd s x t ho e _ 1 24 ht hinfo rfl (by omega) (by omega) cv c.length cs hs h1 hn b c2 [.slice pa p.length pc] hx rfl (fun j u hu => ?_) (fun u hu => ?_) fun w' g cap h3 h4 h5 => h w' g cap ?_ h4 h5
  · match j, hu with
    | 0, hu => rw [← hu]; exact hat
    | j + 1, hu => simp at hu
  · simp only [List.mem_cons, List.not_mem_nil, or_false] at hu
    subst hu; rfl
  · have hcl : cs.length = c.length := by have := h1.1; omega
    refine ⟨cs ++ [.slice pa p.length pc], by simpa using h3, fun i q hq => ?_⟩
    by_cases e : i < c.length
    · rw [List.getElem?_append_left e] at hq
      obtain ⟨pa', pc', g1, g2⟩ := h2 i q hq
      exact ⟨pa', pc', by rw [List.getElem?_append_left (by omega)]; exact g1, g2⟩
    · have hi := lt_of_get hq
      simp only [List.length_append, List.length_cons, List.length_nil] at hi
      obtain rfl : i = c.length := by omega
      rw [List.getElem?_append_right (Nat.le_refl _)] at hq
      simp only [Nat.sub_self, List.getElem?_cons_zero, Option.some.injEq] at hq
      subst hq
      exact ⟨pa, pc, by rw [List.getElem?_append_right (by omega), hcl]; simp, hw⟩

/-- The words behind a cut of a slice. -/
theorem wds_seg {w : World} {b off : Nat} {xs : List Wd} (h : Wds w (some ⟨b, off, none⟩) xs) (i k : Nat) : Wds w (some ⟨b, off + (i + 1) * 5, none⟩) (seg xs i k) := fun j y hy => by
  obtain ⟨b', off', e, hat⟩ := h _ y (seg_get hy)
  simp only [Option.some.injEq, Addr.mk.injEq, and_true] at e
  obtain ⟨rfl, rfl⟩ := e
  exact ⟨b, off + (i + 1) * 5, rfl, by rw [show off + (i + 1) * 5 + j * 5 = off + (i + 1 + j) * 5 from by omega]; exact hat⟩
end Go.Proofs.Qxb6602309aMods
