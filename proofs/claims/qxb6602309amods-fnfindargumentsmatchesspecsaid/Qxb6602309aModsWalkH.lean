import Derived.Test.Qxb6602309aModsWalkG
import Derived.Laws.ResultCell
namespace Go.Proofs.Qxb6602309aMods
open Go.RowKit
set_option linter.unusedVariables false

/-- What pop answers. -/
def Popped (w : World) (B X Q N : Nat) (ps : List (List Wd)) (e : Ending) (w' : World) : Prop :=
  Fr w w' X Q ∧
  ((flat ps = [] ∧ e = .returned (.tuple #[.agg #[.string ⟨#[]⟩, .int .i64 0, .bool false, .string ⟨#[]⟩, .bool false], .bool false])) ∨
   ∃ x qs, flat ps = x :: flat qs ∧ e = .returned (.tuple #[.agg #[.string x.v, .int .i64 x.a, .bool x.b, .string x.t, .bool x.o], .bool true]) ∧ Que w' B X Q N qs)

theorem Box5.fr {w w' : World} {R X Q : Nat} (h : Box5 w R) (hf : Fr w w' X Q) (h1 : R ≠ X) (h2 : R ≠ Q) : Box5 w' R := h.keep hf.size (hf.block R h.size h1 h2)

theorem info45 : (Trym.prog.info? 45).map (fun i => (i.zero, i.size, i.bytes)) = some (some (.agg #[.string ByteArray.empty, .int .i64 0, .bool false, .string ByteArray.empty, .bool false]), 5, 56) := by kernel_rfl

theorem run_load45 {W : World} {R : Nat} {x : Wd} (h : At W R 0 x) : (loadVar 45 ⟨R, 0, none⟩).run Trym.prog W = .ok (.agg #[.string x.v, .int .i64 x.a, .bool x.b, .string x.t, .bool x.o]) W := by
  have hl : (loadCells ⟨R, 0, none⟩ (cs5 x).length).run Trym.prog W = .ok (cs5 x).toArray W :=
    run_loadCells_list (P := Trym.prog) W ⟨R, 0, none⟩ (cs5 x) (fun j v hv => by
      have hadd : (⟨R, 0, none⟩ : Addr).add j = ⟨R, j, none⟩ := by unfold Addr.add; split <;> simp_all
      rw [hadd]
      exact cs5_at h j v hv)
  obtain ⟨i, hi, hzz⟩ := Option.map_eq_some_iff.1 info45
  simp only [Prod.mk.injEq] at hzz
  have hagg : (isAgg 45).run Trym.prog W = .ok true W := by
    unfold isAgg
    rw [Sem.run_bind, run_underlying Trym.underlying45 W]
    simp
  have h5 : (cs5 x).length = 5 := rfl
  rw [h5] at hl
  simp [loadVar, Sem.run_bind, hagg, sizeOf, typeInfo, hi, hzz.2.1, hl]
  rfl

theorem results_w {fn : Func} (h : fn.results = #[.cell 2 45, .tmp 3]) {tmps : Array Value} {W : World} {R : Nat} {x : Wd} {b : Bool} (hA : At W R 0 x) (h2 : tmps.getD 2 undef = .pointer (some ⟨R, 0, none⟩)) (h3 : tmps.getD 3 undef = .bool b) :
    (results fn tmps).run Trym.prog W = .ok (.tuple #[.agg #[.string x.v, .int .i64 x.a, .bool x.b, .string x.t, .bool x.o], .bool b]) W := by
  rw [results_cell_tmp h, h2, h3]
  simp [asAddr, run_load45 hA, Result.andThen]

set_option maxRecDepth 100000 in
set_option maxHeartbeats 2000000 in
theorem pop19 (B X Q N : Nat) (ps : List (List Wd)) (w : World) (h : Que w B X Q N ps) (hB : B ≤ w.heap.size) :
    Calls Trym.prog 19 #[.pointer (some ⟨X, 0, none⟩)] w fun e w' => Popped w B X Q N ps e w' := by
  have hXR : X < w.heap.size := Nat.lt_of_lt_of_le h.hX hB
  have hQR : Q < w.heap.size := Nat.lt_of_lt_of_le h.hQ hB
  go_enter Trym.func19, Trym.ntmps19
  go_wp2_with fail
  refine (peek22 B X Q N ps _ (h.alloc hB _) (by simp; omega)).mono ?_
  rintro e w1 ⟨hfr, hcase⟩
  have hbox := (box5_new w (.string ⟨#[]⟩) (.int .i64 0) (.bool false) (.string ⟨#[]⟩) (.bool false) 45).fr hfr (by omega) (by omega)
  have hfr1 : Fr w w1 X Q := (((Fr.refl w X Q).alloc _)).trans hfr
  have hbs := hbox.size
  obtain ⟨v0, o0⟩ := hbox.old 0 (by omega)
  obtain ⟨v1, o1⟩ := hbox.old 1 (by omega)
  obtain ⟨v2, o2⟩ := hbox.old 2 (by omega)
  obtain ⟨v3, o3⟩ := hbox.old 3 (by omega)
  obtain ⟨v4, o4⟩ := hbox.old 4 (by omega)
  have z0 := hbox.free 0
  have z1 := hbox.free 1
  have z2 := hbox.free 2
  have z3 := hbox.free 3
  have z4 := hbox.free 4
  rcases hcase with ⟨hnil, rfl, hq⟩ | ⟨x, p, qs, hfl, rfl, hq⟩
  · go_wp2_with fail
    refine bodyPost_ret (v := .tuple #[.agg #[.string ⟨#[]⟩, .int .i64 0, .bool false, .string ⟨#[]⟩, .bool false], .bool false]) (results_w (x := zeroW) Trym.results19 (((put5_at (fun j hj => by rw [Nat.zero_add]; exact hbox.old j hj)).keep (Below.heap_alloc _ _ _ (by simpa using hbs)))) rfl rfl) rfl ?_
    exact ⟨(hfr1.put5 (x := zeroW) (o := 0) (Nat.le_refl _)).alloc _, .inl ⟨hnil, rfl⟩⟩
  · have HF : Hid _ := hfl
    clear hfl
    obtain ⟨qa, hqa, hqa2⟩ := hq.ex
    obtain rfl := hqa2 (by simp)
    obtain ⟨pa, pc, hc, hw, hpc, hpa⟩ := hq.part qs.length (x :: p) (by simp)
    have hnl := hq.nle
    simp only [List.length_append, List.length_cons, List.length_nil, Nat.zero_add] at hqa hnl hc hpc
    obtain ⟨b, off, rfl, hat⟩ := hw 0 x rfl
    have hpl : p.length ≤ 1048576 := by have := hq.tle; rw [flat_two] at this; simp at this; omega
    have zq := hq.freeQ qs.length
    have hX1 : X < w1.heap.size := by omega
    have hQ1 : Q < w1.heap.size := by omega
    have hqa' : ∀ o, (w1.alloc o).cell? ⟨X, 0, none⟩ = some (.slice (some ⟨Q, 0, none⟩) (qs.length + 1) N) := fun o => (World.cell?_alloc_lt w1 o ⟨X, 0, none⟩ hX1).trans hqa
    have hc' : ∀ o, (w1.alloc o).cell? ⟨Q, qs.length, none⟩ = some (.slice (some ⟨b, off, none⟩) (p.length + 1) pc) := fun o => (World.cell?_alloc_lt w1 o ⟨Q, qs.length, none⟩ hQ1).trans hc
    clear hqa2
    have hRQ : ¬ w.heap.size = Q := by omega
    have hW1 : Wds w1 (some ⟨b, off, none⟩) (x :: p) := hw
    have hpa1 := hpa _ rfl
    clear hw hat hpa
    have HO : Hid (∀ (n : Nat) (o : Obj) (v : Value), ∀ j, j < 5 → ∃ u, (((w1.alloc o).drewN n).setCell ⟨Q, qs.length, none⟩ v).cell? ⟨w.heap.size, j, none⟩ = some u) := fun n o v j hj => by
      obtain ⟨u, hu⟩ := hbox.old j hj
      exact cell?_setCell_some (p := ⟨Q, qs.length, none⟩) (x := v) ((World.cell?_alloc_lt w1 o ⟨w.heap.size, j, none⟩ hbs).trans hu)
    by_cases hp1 : pc = 1
    · subst hp1
      obtain rfl : p = [] := List.eq_nil_of_length_eq_zero (by omega)
      simp only [List.length_nil, Nat.zero_add] at hc'
      go_wp2_with fail
      go_quiet (fail)
      go_wp2_with fail
      refine bodyPost_ret (v := .tuple #[.agg #[.string x.v, .int .i64 x.a, .bool x.b, .string x.t, .bool x.o], .bool true]) (results_w (x := x) Trym.results19 (put5_at (fun j hj => by rw [Nat.zero_add]; exact HO.out nq _ _ j hj)) rfl rfl) rfl ?_
      have hq2 := (((hq.alloc (by omega) (.cells #[.string x.v, .int .i64 x.a, .bool x.b, .string x.t, .bool x.o] 45 (0, 0))).drewN nq).take (pa := some ⟨b, off, none⟩) (pc := 0) (wds_nil _ _) (by simp) (fun y hy => by simp only [Option.some.injEq] at hy; subst hy; exact hpa1))
      refine ⟨(((hfr1.alloc _).drewN nq).setQ _ _).put5 (x := x) (o := 0) (Nat.le_refl _), .inr ⟨x, qs ++ [[]], by rw [HF.out, flat_snoc], rfl, hq2.put5 (x := x) (o := 0) hB⟩⟩
    · go_wp2_with fail
      go_quiet (fail)
      go_wp2_with fail
      refine bodyPost_ret (v := .tuple #[.agg #[.string x.v, .int .i64 x.a, .bool x.b, .string x.t, .bool x.o], .bool true]) (results_w (x := x) Trym.results19 (put5_at (fun j hj => by rw [Nat.zero_add]; exact HO.out nq _ _ j hj)) rfl rfl) rfl ?_
      have hW2 : Wds ((w1.alloc (.cells #[.string x.v, .int .i64 x.a, .bool x.b, .string x.t, .bool x.o] 45 (0, 0))).drewN nq) (some ⟨b, off + 5, none⟩) p := (wds_tail hW1).keep (fun y hy => by
        simp only [Option.some.injEq] at hy; subst hy
        exact Below.heap_alloc w1 _ b (by have h3 : b < B := hpa1.2.2; omega))
      have hq2 := (((hq.alloc (by omega) (.cells #[.string x.v, .int .i64 x.a, .bool x.b, .string x.t, .bool x.o] 45 (0, 0))).drewN nq).take (pa := some ⟨b, off + 5, none⟩) (pc := pc - 1) hW2 (by omega) (fun y hy => by simp only [Option.some.injEq] at hy; subst hy; exact hpa1))
      refine ⟨(((hfr1.alloc _).drewN nq).setQ _ _).put5 (x := x) (o := 0) (Nat.le_refl _), .inr ⟨x, qs ++ [p], by rw [HF.out, flat_snoc], rfl, hq2.put5 (x := x) (o := 0) hB⟩⟩
end Go.Proofs.Qxb6602309aMods
