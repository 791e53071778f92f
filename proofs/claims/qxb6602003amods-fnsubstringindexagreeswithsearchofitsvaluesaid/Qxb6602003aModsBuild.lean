import Derived.Test.Qxb6602003aModsWalkC
namespace Go.Proofs.Qxb6602003aMods
open Go.RowKit
set_option linter.unusedVariables false

theorem fold_set_list (off : Nat) : ∀ (l : List (Value × Nat)) (z : Array Value), (l.foldl (fun acc x => acc.setIfInBounds (off + x.2) x.1) z).size = z.size
  | [], z => rfl
  | x :: l, z => by rw [List.foldl_cons, fold_set_list off l]; simp

theorem fold_set_get (l : List Value) : ∀ (k off : Nat) (z : Array Value) (i : Nat), off + k + l.length ≤ z.size →
    ((l.zipIdx k).foldl (fun acc x => acc.setIfInBounds (off + x.2) x.1) z)[i]? = if off + k ≤ i ∧ i < off + k + l.length then l[i - (off + k)]? else z[i]? := by
  induction l with
  | nil =>
    intro k off z i h
    simp
    intro h1 h2; omega
  | cons x l ih =>
    intro k off z i h
    simp only [List.zipIdx_cons, List.foldl_cons, List.length_cons] at h ⊢
    rw [ih (k + 1) off _ i (by simp; omega)]
    by_cases h1 : off + (k + 1) ≤ i ∧ i < off + (k + 1) + l.length
    · rw [if_pos h1, if_pos (by omega)]
      rw [show i - (off + k) = (i - (off + (k + 1))) + 1 from by omega, List.getElem?_cons_succ]
    · rw [if_neg h1, Array.getElem?_setIfInBounds]
      by_cases h2 : off + k = i
      · rw [if_pos h2, if_pos (by omega), if_pos (by omega)]
        subst h2; simp
      · rw [if_neg h2, if_neg (by omega)]

/-- The struct that is laid: the 256 cells, the words, the slice. -/
def bigOf (cs z : Array Value) (a b : Value) : Array Value := ((cs.zipIdx.foldl (fun acc x => acc.setIfInBounds x.2 x.1) z).setIfInBounds 256 a).setIfInBounds 257 b

theorem big_fold (cs z : Array Value) (hcs : cs.size = 256) (hz : z.size = 258) :
    (cs.zipIdx.foldl (fun acc x => acc.setIfInBounds x.2 x.1) z).size = 258 ∧ ∀ j, j < 256 → (cs.zipIdx.foldl (fun acc x => acc.setIfInBounds x.2 x.1) z)[j]? = cs[j]? := by
  have e : cs.zipIdx.foldl (fun acc x => acc.setIfInBounds x.2 x.1) z = (cs.toList.zipIdx 0).foldl (fun acc x => acc.setIfInBounds (0 + x.2) x.1) z := by
    rw [← Array.foldl_toList]
    simp
  rw [e]
  constructor
  · rw [fold_set_list]; exact hz
  · intro j hj
    rw [fold_set_get _ _ _ _ _ (by simp; omega)]
    rw [if_pos (by simp; omega)]
    simp

theorem big_facts (cs z : Array Value) (a b : Value) (hcs : cs.size = 256) (hz : z.size = 258) :
    (bigOf cs z a b).size = 258 ∧ (∀ j, j < 256 → (bigOf cs z a b)[j]? = cs[j]?) ∧ (bigOf cs z a b)[256]? = some a ∧ (bigOf cs z a b)[257]? = some b := by
  obtain ⟨h1, h2⟩ := big_fold cs z hcs hz
  unfold bigOf
  generalize cs.zipIdx.foldl (fun acc x => acc.setIfInBounds x.2 x.1) z = f at h1 h2
  refine ⟨by simpa using h1, fun j hj => ?_, ?_, ?_⟩
  · rw [Array.getElem?_setIfInBounds, if_neg (by omega), Array.getElem?_setIfInBounds, if_neg (by omega), h2 j hj]
  · rw [Array.getElem?_setIfInBounds, if_neg (by omega), Array.getElem?_setIfInBounds, if_pos rfl, if_pos (by omega)]
  · rw [Array.getElem?_setIfInBounds, if_pos rfl, if_pos (by simp; omega)]

theorem zero47 : ((Trym.prog.info? 47).bind (·.zero)).map (fun v => v.cells.size) = some 258 := by kernel_rfl
theorem size30 : (Trym.prog.info? 30).map (·.size) = some 256 := by kernel_rfl
theorem size31 : (Trym.prog.info? 31).map (·.size) = some 1 := by kernel_rfl
theorem size3 : (Trym.prog.info? 3).map (·.size) = some 1 := by kernel_rfl

theorem run_size {t : TypeId} {n : Nat} (h : (Trym.prog.info? t).map (·.size) = some n) (w : World) : (sizeOf t).run Trym.prog w = .ok n w := by
  cases hq : Trym.prog.info? t with
  | none => rw [hq] at h; cases h
  | some i =>
    rw [hq] at h
    have : i.size = n := by simpa using h
    simp [sizeOf, typeInfo, hq, this]

theorem run_zero47 : ∃ z : Value, z.cells.size = 258 ∧ ∀ w, (zeroValue 47).run Trym.prog w = .ok z w := by
  have h := zero47
  cases hq : Trym.prog.info? 47 with
  | none => rw [hq] at h; cases h
  | some i =>
    rw [hq] at h
    cases hz : i.zero with
    | none => simp [hz] at h
    | some z =>
      simp [hz] at h
      exact ⟨z, h, fun w => by simp [zeroValue, typeInfo, hq, hz]⟩

theorem run_build47 (cs : Array Value) (hcs : cs.size = 256) (ws : Int) (sl : Option Addr) (n c : Nat) :
    ∃ big : Array Value, (big.size = 258 ∧ (∀ j, j < 256 → big[j]? = cs[j]?) ∧ big[256]? = some (.int .i64 ws) ∧ big[257]? = some (.slice sl n c)) ∧
      ∀ w, (Instr.build 47 #[(0, .agg cs), (1, .int .i64 ws), (2, .slice sl n c)]).run Trym.prog w = .ok (.agg big) w := by
  obtain ⟨z, hz, hzr⟩ := run_zero47
  refine ⟨bigOf cs z.cells (.int .i64 ws) (.slice sl n c), big_facts _ _ _ _ hcs hz, fun w => ?_⟩
  obtain ⟨h1, h2⟩ := big_fold cs z.cells hcs hz
  have hu := run_underlying (P := Trym.prog) Trym.underlying47
  simp only [Instr.build, Sem.run_bind, hzr, Result.andThen_ok, hu]
  generalize z.cells = zc at *
  have c1 : (Value.agg cs).cells = cs := rfl
  have c2 : (Value.int .i64 ws).cells = #[.int .i64 ws] := rfl
  have c3 : (Value.slice sl n c).cells = #[.slice sl n c] := rfl
  have h1' := h1
  simp [hcs] at h1'
  simp [run_size size30, run_size size31, run_size size3, Instr.fill, c1, c2, c3, hcs, hz, h1', bigOf]
end Go.Proofs.Qxb6602003aMods
