import Derived.Test.Qxb6602003aModsWalkD
import Derived.Test.Qxb6602003aModsPlainB
import Derived.Deep.OwnRows
namespace Go.Proofs.Qxb6602003aMods
open Go.RowKit
set_option linter.unusedVariables false

theorem wpList_alloc {P : Program} {w : World} {ops : Array Oper} {rest : List Oper} {o : Oper} {a : Act} {Q : Exit → Act → World → Prop} (hgd : o.guard = none) (ty : TypeId)
    (ho : o.op = .alloc ty) (v : Value) (w' : World)
    (hrun : (Instr.alloc ty true (.tuple #[])).run P w = .ok v w') (h : wpList P ops Q rest (a.put o.dst v) w') : wpList P ops Q (o :: rest) a w := by
  refine wpList_plain hgd fun K hK => ?_
  unfold Oper.wp
  simp [execOp, ho, hrun, Result.andThen]
  exact hK _ _ h

/-- The array of rows, all zero. -/
def rows0 : Array Value := Array.replicate 256 (.int .u16 0)
theorem zero30 : ((Trym.prog.info? 30).bind (·.zero)) = some (.agg rows0) := by kernel_rfl

theorem run_alloc30 (w : World) : (Instr.alloc 30 true (.tuple #[])).run Trym.prog w = .ok (.pointer (some ⟨w.heap.size, 0, none⟩)) (w.alloc (.cells rows0 30 (0, 0))) := by
  have h := zero30
  cases hq : Trym.prog.info? 30 with
  | none => rw [hq] at h; cases h
  | some i =>
    rw [hq] at h
    have hz : i.zero = some (.agg rows0) := h
    generalize rows0 = z at hz
    simp [Instr.alloc, zeroValue, typeInfo, hq, hz, newVar, newRow, Value.cells]

/-- The array of rows as it lies in block E. -/
def Rows256 (w : World) (E : Nat) (R : Nat → Nat) : Prop := ∃ cs : Array Value, w.heap[E]? = some (.cells cs 30 (0, 0)) ∧ cs.size = 256 ∧ ∀ b, b < 256 → cs[b]? = some (.int .u16 (R b : Int))

theorem rows256_start (w : World) : Rows256 (w.alloc (.cells rows0 30 (0, 0))) w.heap.size (fun _ => 0) := by
  refine ⟨rows0, heap_alloc_new w _, by simp [rows0], fun b hb => ?_⟩
  simp [rows0, hb]

theorem Rows256.cell {w : World} {E : Nat} {R : Nat → Nat} (h : Rows256 w E R) (b : Nat) (hb : b < 256) : w.cell? ⟨E, b, none⟩ = some (.int .u16 (R b : Int)) := by
  obtain ⟨cs, h1, h2, h3⟩ := h
  rw [cell_of_row w E b cs 30 (0, 0) h1, h3 b hb]

theorem Rows256.free {w : World} {E : Nat} {R : Nat → Nat} (h : Rows256 w E R) (b : Nat) : w.frozen? ⟨E, b, none⟩ = false := by
  obtain ⟨cs, h1, h2, h3⟩ := h
  exact frozen_of_row w E b cs 30 h1

theorem Rows256.set {w : World} {E : Nat} {R : Nat → Nat} (h : Rows256 w E R) (b x : Nat) (hb : b < 256) :
    Rows256 (w.setCell ⟨E, b, none⟩ (.int .u16 (x : Int))) E (fun c => if c = b then x else R c) := by
  obtain ⟨cs, h1, h2, h3⟩ := h
  refine ⟨_, heap_setCell_same w E b cs 30 _ h1, by simpa using h2, fun c hc => ?_⟩
  rw [Array.getElem?_setIfInBounds]
  by_cases e : b = c
  · subst e; rw [if_pos rfl, if_pos (by omega)]; simp
  · rw [if_neg e, h3 c hc]
    have e3 : ¬ c = b := fun e2 => e e2.symm
    simp [e3]

theorem Rows256.below {w w' : World} {E B : Nat} {R : Nat → Nat} (h : Rows256 w E R) (hb : Below B w w') (hE : E < B) : Rows256 w' E R := by
  obtain ⟨cs, h1, h2, h3⟩ := h
  exact ⟨cs, (hb.block E hE).trans h1, h2, h3⟩

/-- The words as they lie in block B. -/
structure Words (w : World) (B n : Nat) (M : Nat → Nat) : Prop where
  size : B < w.heap.size
  cell : ∀ i, i < n → w.cell? ⟨B, i, none⟩ = some (.int .u64 (M i : Int))
  free : ∀ i, w.frozen? ⟨B, i, none⟩ = false

theorem Words.set {w : World} {B n : Nat} {M : Nat → Nat} (h : Words w B n M) (j x : Nat) (hj : j < n) :
    Words (w.setCell ⟨B, j, none⟩ (.int .u64 (x : Int))) B n (fun t => if t = j then x else M t) where
  size := by simpa using h.size
  cell t ht := by
    by_cases e : t = j
    · subst e; simp only [if_true]; exact World.cell?_setCell_same w _ _ (h.cell t ht)
    · simp only [if_neg e]
      rw [World.cell?_setCell_other w _ _ _ (by intro e2; injection e2 with _ e3 _; exact e e3.symm)]
      exact h.cell t ht
  free t := by rw [World.frozen?_setCell]; exact h.free t

theorem words_start {w : World} {n : Nat} : Words (w.alloc (.cells (madeCells #[.int .u64 0] n) 23 (0, 0))) w.heap.size n (fun _ => 0) := by
  have hg := heap_alloc_new w (.cells (madeCells #[.int .u64 0] n) 23 (0, 0))
  refine ⟨by simp, fun i hi => ?_, fun i => frozen_of_row _ _ _ _ 23 hg⟩
  rw [cell_of_row _ _ i _ 23 (0, 0) hg]
  simp [madeCells, hi, Nat.mod_one]

theorem info23b : (Trym.prog.info? 23).map (fun i => (i.zero, i.size, i.bytes)) = some (some (.int .u64 0), 1, 8) := by kernel_rfl
end Go.Proofs.Qxb6602003aMods
