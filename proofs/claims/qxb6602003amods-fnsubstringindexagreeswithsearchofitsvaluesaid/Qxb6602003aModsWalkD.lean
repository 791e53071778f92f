import Derived.Test.Qxb6602003aModsBuild
namespace Go.Proofs.Qxb6602003aMods
open Go.RowKit
set_option linter.unusedVariables false

theorem wpList_build {P : Program} {w : World} {ops : Array Oper} {rest : List Oper} {o : Oper} {a : Act} {Q : Exit → Act → World → Prop} (hgd : o.guard = none) (ty : TypeId) (x0 x1 x2 : Operand)
    (ho : o.op = .build ty #[(0, x0), (1, x1), (2, x2)]) (v0 v1 v2 v : Value) (h0 : a.eval x0 = v0) (h1 : a.eval x1 = v1) (h2 : a.eval x2 = v2)
    (hrun : (Instr.build ty #[(0, v0), (1, v1), (2, v2)]).run P w = .ok v w) (h : wpList P ops Q rest (a.put o.dst v) w) : wpList P ops Q (o :: rest) a w := by
  refine wpList_plain hgd fun K hK => ?_
  unfold Oper.wp
  simp [execOp, ho, h0, h1, h2, hrun, Result.andThen]
  exact hK _ _ h

/-- The index that is laid out of its three fields. -/
theorem ix_laid {w : World} {B ws n : Nat} {R M : Nat → Nat} {cs big : Array Value} (hcs : ∀ b, b < 256 → cs[b]? = some (.int .u16 (R b : Int)))
    (hbig : big.size = 258 ∧ (∀ j, j < 256 → big[j]? = cs[j]?) ∧ big[256]? = some (.int .i64 (ws : Int)) ∧ big[257]? = some (.slice (some ⟨B, 0, none⟩) n n))
    (hB : B < w.heap.size) (mem : ∀ i, i < n → w.cell? ⟨B, i, none⟩ = some (.int .u64 (M i : Int)))
    (lt : ∀ i, M i < 18446744073709551616) (rle : ∀ b, R b ≤ 1000) (fit : ∀ b, R b * ws ≤ n) (wsle : ws ≤ 16) (nle : n ≤ 16000) (wpos : ∀ b, R b ≠ 0 → 1 ≤ ws) (o : Obj) :
    Ix ((w.alloc o).alloc (.cells big 47 (0, 0))) (w.heap.size + 1) B ws n R M := by
  have hg := heap_alloc2_new w o (.cells big 47 (0, 0))
  have hc := fun j => cell_of_row _ (w.heap.size + 1) j big 47 (0, 0) hg
  have hb : Below w.heap.size w ((w.alloc o).alloc (.cells big 47 (0, 0))) := ((Below.refl _ _).alloc (Nat.le_refl _) _).alloc (by simp) _
  refine ⟨by simp, by simp; omega, fun b h => ?_, ?_, ?_, fun i hi => ?_, lt, rle, fit, wsle, nle, wpos⟩
  · rw [hc, hbig.2.1 b h, hcs b h]
  · rw [hc, hbig.2.2.1]
  · rw [hc, hbig.2.2.2]
  · rw [hb.cell (p := ⟨B, i, none⟩) hB, mem i hi]

theorem contains26_all (X B ws n : Nat) (R M : Nat → Nat) (v s : ByteArray) (w : World) (hix : Ix w X B ws n R M) (hd : Idx v ws R M) (h1 : s.size ≤ 524288) :
    Calls Trym.prog 26 #[.pointer (some ⟨X, 0, none⟩), .string s] w fun e w' => Searched v s e ∧ Below w.heap.size w w' := by
  by_cases h0 : s.size = 0
  · exact contains26_empty X v s w h0
  · by_cases hr : R (s[0].toNat) = 0
    · exact contains26_nil X B ws n R M v s w hix hd h1 (by omega) hr
    · exact contains26 X B ws n R M v s w hix hd h1 (by omega) hr

set_option maxRecDepth 100000 in
theorem zz16 (cs : Array Value) (hcs : cs.size = 256) (B ws n : Nat) (R M : Nat → Nat) (v s : ByteArray) (w : World) (hrow : ∀ b, b < 256 → cs[b]? = some (.int .u16 (R b : Int)))
    (hB : B < w.heap.size) (mem : ∀ i, i < n → w.cell? ⟨B, i, none⟩ = some (.int .u64 (M i : Int)))
    (lt : ∀ i, M i < 18446744073709551616) (rle : ∀ b, R b ≤ 1000) (fit : ∀ b, R b * ws ≤ n) (wsle : ws ≤ 16) (nle : n ≤ 16000) (wpos : ∀ b, R b ≠ 0 → 1 ≤ ws)
    (hd : Idx v ws R M) (h1 : s.size ≤ 524288) :
    Calls Trym.prog 16 #[.agg cs, .int .i64 (ws : Int), .slice (some ⟨B, 0, none⟩) n n, .string s] w fun e w' => Searched v s e ∧ Below w.heap.size w w' := by
  have hg := heap_alloc_new w (.cells cs 30 (0, 0))
  obtain ⟨big, hbig, hrun⟩ := run_build47 cs hcs (ws : Int) (some ⟨B, 0, none⟩) n n
  have HRun : Hid (∀ w, (Instr.build 47 #[(0, .agg cs), (1, .int .i64 (ws : Int)), (2, .slice (some ⟨B, 0, none⟩) n n)]).run Trym.prog w = .ok (.agg big) w) := hrun
  have HIx : Hid _ := ix_laid hrow hbig hB mem lt rle fit wsle nle wpos (.cells cs 30 (0, 0))
  have HC : Hid ((Trym.prog.info? 30).map (·.size) = some cs.size) := by rw [hcs]; exact size30
  clear hcs hrow mem lt rle fit wsle nle wpos hbig hrun
  go_enter Trym.func16, Trym.ntmps16
  go_wp2_with (first | (refine wpList_load_row rfl 30 (.tmp 4) rfl w.heap.size rfl 30 cs (0, 0) _ hg Trym.underlying30 rfl HC.out ?_) | (refine wpList_build rfl 47 (.tmp 10) (.tmp 11) (.tmp 12) rfl (.agg cs) (.int .i64 (ws : Int)) (.slice (some ⟨B, 0, none⟩) n n) (.agg big) rfl rfl rfl (HRun.out _) ?_))
  refine (contains26_all (w.heap.size + 1) B ws n R M v s _ HIx.out hd h1).mono ?_
  rintro e w1 ⟨⟨b, rfl, hb⟩, hbl⟩
  go_wp2
  go_ret
  refine ⟨⟨b, rfl, hb⟩, ?_⟩
  refine Below.trans ?_ (hbl.mono (by simp; omega))
  exact ((Below.refl _ _).alloc (Nat.le_refl _) _).alloc (by simp) _
end Go.Proofs.Qxb6602003aMods
