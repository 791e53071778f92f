import Derived.Test.Qxb6602309aModsMemB
namespace Go.Proofs.Qxb6602309aMods
open Go.RowKit
set_option linter.unusedVariables false

theorem run_app (w : World) (t ty e : TypeId) (z : Value) (size bytes : Nat) (ht : Trym.prog.underlying t = some (.slice e))
    (hinfo : (Trym.prog.info? e).map (fun i => (i.zero, i.size, i.bytes)) = some (some z, size, bytes)) (hzs : z.cells.size = size) (hsz : 0 < size) (hby : bytes ≤ 56)
    (v : Value) (n : Nat) (xs : List Value) (hown : w.ownsRow 0 e size v n xs) (hn : n ≤ 1048576)
    (b c : Nat) (news : List Value) (hl : news.length = size) (hnews : ∀ j u, news[j]? = some u → w.cell? ⟨b, j, none⟩ = some u) (h1 : ∀ u ∈ news, u.oneCell' = true) :
    ∃ v' w', (Builtin.append_ #[t, t] ty #[v, .slice (some ⟨b, 0, none⟩) 1 c]).run Trym.prog w = .ok v' w' ∧ w'.ownsRow 0 e size v' (n + 1) (xs ++ news) ∧ w.grownBy w' v.ownBlock ∧
      (v'.ownBlock = v.ownBlock ∨ v'.ownBlock = some w.heap.size) ∧ ∃ g cap, v' = .slice (some ⟨g, 0, none⟩) (n + 1) cap := by
  obtain ⟨i, hi, hzz⟩ := Option.map_eq_some_iff.1 hinfo
  simp only [Prod.mk.injEq] at hzz
  obtain ⟨hz, hs, hb⟩ := hzz
  have hadd : ∀ j, (⟨b, 0, none⟩ : Addr).add j = ⟨b, j, none⟩ := fun j => by unfold Addr.add; split <;> simp_all
  have hnews' : ∀ j u, news[j]? = some u → w.cell? ((⟨b, 0, none⟩ : Addr).add j) = some u := fun j u hu => by rw [hadd]; exact hnews j u hu
  have hbyt : (n + 1) * bytes ≤ 140737488355328 := by
    have := Nat.mul_le_mul (show n + 1 ≤ 1048577 from by omega) hby
    omega
  have h63 : n + 1 ≤ maxLen := by unfold maxLen; omega
  obtain ⟨v', w', hr, ho, hg, hnil⟩ := run_append_own (P := Trym.prog) w 0 t ty e i z size bytes ht hi hz hs hb hzs hsz v n xs hown ⟨b, 0, none⟩ 1 c news (by omega) hnews' h1 h63 hbyt (Nat.zero_le _)
  refine ⟨v', w', hr, ho, hg, ?_⟩
  subst hs hb
  rcases hown.2 with ⟨rfl, rfl⟩ | ⟨g, cap, cur, rfl, _, hgg, hnc, hcm, hcs, htake⟩
  · have hr2 := run_append_nil (P := Trym.prog) w t ty e i z ht hi hz ⟨b, 0, none⟩ 1 c news (by omega) hnews' (by omega) (by omega) (by omega)
    rw [hr] at hr2
    injection hr2 with e1 e2
    exact ⟨.inr (by rw [e1]; rfl), _, _, e1⟩
  · by_cases hroom : n + 1 ≤ cap
    · have hr2 := run_append_room (P := Trym.prog) w t ty e i ht hi g n cap cur hgg ⟨b, 0, none⟩ 1 c news (by omega) hnews' h1 hroom (by
        have := Nat.mul_le_mul_right i.size hroom
        rw [hcs, hl]; rw [Nat.add_mul] at this; omega)
      rw [hr] at hr2
      injection hr2 with e1 e2
      exact ⟨.inl (by rw [e1]; rfl), _, _, e1⟩
    · have hr2 := run_append_grow (P := Trym.prog) w t ty e i z ht hi hz ⟨g, 0, none⟩ n cap xs hown.1 (hown.cells (g := g) rfl) ⟨b, 0, none⟩ 1 c news (by omega) hnews' (by omega) (by omega) (growslice_fits (by omega) hbyt)
      rw [hr] at hr2
      injection hr2 with e1 e2
      exact ⟨.inr (by rw [e1]; rfl), _, _, e1⟩

theorem wpList_app (w : World) {ops : Array Oper} {rest : List Oper} {o : Oper} {a : Act} {Q : Exit → Act → World → Prop} (hgd : o.guard = none) (s x : Operand) (t : TypeId)
    (ho : o.op = .call { callee := .builtin .append, args := #[s, x], argTypes := #[t, t] })
    (e : TypeId) (z : Value) (size bytes : Nat) (ht : Trym.prog.underlying t = some (.slice e))
    (hinfo : (Trym.prog.info? e).map (fun i => (i.zero, i.size, i.bytes)) = some (some z, size, bytes)) (hzs : z.cells.size = size) (hsz : 0 < size) (hby : bytes ≤ 56)
    (v : Value) (n : Nat) (xs : List Value) (hs : a.eval s = v) (hown : w.ownsRow 0 e size v n xs) (hn : n ≤ 1048576)
    (b c : Nat) (news : List Value) (hx : a.eval x = .slice (some ⟨b, 0, none⟩) 1 c) (hl : news.length = size) (hnews : ∀ j u, news[j]? = some u → w.cell? ⟨b, j, none⟩ = some u) (h1 : ∀ u ∈ news, u.oneCell' = true)
    (h : ∀ w' g cap, w'.ownsRow 0 e size (.slice (some ⟨g, 0, none⟩) (n + 1) cap) (n + 1) (xs ++ news) → w.grownBy w' v.ownBlock → (some g = v.ownBlock ∨ g = w.heap.size) → wpList Trym.prog ops Q rest (a.put o.dst (.slice (some ⟨g, 0, none⟩) (n + 1) cap)) w') :
    wpList Trym.prog ops Q (o :: rest) a w := by
  refine wpList_plain hgd fun K hK => ?_
  obtain ⟨v', w', hr, h2, h3, h4, g, cap, rfl⟩ := run_app w t o.type e z size bytes ht hinfo hzs hsz hby v n xs hown hn b c news hl hnews h1
  unfold Oper.wp execOp
  simp only [ho, resolve, invoke, builtin, Sem.run_bind, Sem.run_pure, Result.andThen_ok, List.map_toArray, List.map_cons, List.map_nil, hs, hx, hr]
  refine hK _ _ (h w' g cap h2 h3 ?_)
  rcases h4 with h4 | h4
  · exact .inl h4
  · right; simpa [Value.ownBlock] using h4

/-- A word's five cells. -/
def cs5 (x : Wd) : List Value := [.string x.v, .int .i64 x.a, .bool x.b, .string x.t, .bool x.o]
def wcs : List Wd → List Value
  | [] => []
  | x :: xs => cs5 x ++ wcs xs
theorem wcs_append : ∀ a b : List Wd, wcs (a ++ b) = wcs a ++ wcs b
  | [], b => rfl
  | x :: a, b => by simp only [List.cons_append, wcs, wcs_append a b, List.append_assoc]
theorem wcs_len : ∀ a : List Wd, (wcs a).length = a.length * 5
  | [] => rfl
  | x :: a => by simp only [wcs, List.length_append, wcs_len a, cs5, List.length_cons, List.length_nil]; omega
theorem wcs_get : ∀ (xs : List Wd) (i j : Nat) (x : Wd), xs[i]? = some x → j < 5 → (wcs xs)[i * 5 + j]? = (cs5 x)[j]?
  | [], i, j, x, h, _ => by simp at h
  | y :: xs, 0, j, x, h, hj => by
    simp only [List.getElem?_cons_zero, Option.some.injEq] at h
    subst h
    simp only [wcs, Nat.zero_mul, Nat.zero_add]
    rw [List.getElem?_append_left (by simpa [cs5] using hj)]
  | y :: xs, i + 1, j, x, h, hj => by
    simp only [List.getElem?_cons_succ] at h
    have ih := wcs_get xs i j x h hj
    simp only [wcs]
    have h5 : (cs5 y).length = 5 := rfl
    rw [List.getElem?_append_right (by rw [h5]; omega), h5, show (i + 1) * 5 + j - 5 = i * 5 + j from by omega]
    exact ih

/-- A row of words of the call's own, in block g. -/
def OwnW (w : World) (e : TypeId) (v : Value) (xs : List Wd) : Prop := w.ownsRow 0 e 5 v xs.length (wcs xs)

theorem ownW_nil (w : World) (e : TypeId) : OwnW w e (.slice none 0 0) [] := World.ownsRow_nil w 0 e 5

/-- What the walk may read of it. -/
theorem OwnW.shape {w : World} {e : TypeId} {v : Value} {xs : List Wd} (h : OwnW w e v xs) :
    (v = .slice none 0 0 ∧ xs = []) ∨ ∃ g cap, v = .slice (some ⟨g, 0, none⟩) xs.length cap ∧ Wds w (some ⟨g, 0, none⟩) xs ∧ g < w.heap.size ∧ v.ownBlock = some g := by
  rcases h.2 with ⟨h1, h2⟩ | ⟨g, cap, cur, h1, _, hg, hnc, hcm, hcs, htake⟩
  · exact .inl ⟨h1, List.eq_nil_of_length_eq_zero h2⟩
  · refine .inr ⟨g, cap, h1, fun i x hx => ⟨g, 0, rfl, ?_⟩, (Array.getElem?_eq_some_iff.1 hg).1, by rw [h1]; rfl⟩
    have hi : i < xs.length := by
      rcases Nat.lt_or_ge i xs.length with h2 | h2
      · exact h2
      · rw [List.getElem?_eq_none h2] at hx; cases hx
    have hc : ∀ j, j < 5 → w.cell? ⟨g, 0 + i * 5 + j, none⟩ = (cs5 x)[j]? := fun j hj => by
      rw [Nat.zero_add]
      unfold OwnW at h
      subst h1
      rw [World.ownsRow.cellAt h (i * 5 + j) (by omega), wcs_get xs i j x hx hj]
    exact ⟨hc 0 (by omega), hc 1 (by omega), hc 2 (by omega), hc 3 (by omega), hc 4 (by omega)⟩

theorem cs5_one (x : Wd) : ∀ u ∈ cs5 x, u.oneCell' = true := by
  intro u hu
  simp only [cs5, List.mem_cons, List.not_mem_nil, or_false] at hu
  rcases hu with rfl | rfl | rfl | rfl | rfl <;> rfl

theorem cs5_at {w : World} {b : Nat} {x : Wd} (h : At w b 0 x) : ∀ j u, (cs5 x)[j]? = some u → w.cell? ⟨b, j, none⟩ = some u := by
  intro j u hu
  match j, hu with
  | 0, hu => rw [← hu]; exact h.c0
  | 1, hu => rw [← hu]; exact h.c1
  | 2, hu => rw [← hu]; exact h.c2
  | 3, hu => rw [← hu]; exact h.c3
  | 4, hu => rw [← hu]; exact h.c4
  | j + 5, hu => simp [cs5] at hu

theorem at_new (w : World) (t : TypeId) (x : Wd) : At (w.alloc (.cells #[.string x.v, .int .i64 x.a, .bool x.b, .string x.t, .bool x.o] t (0, 0))) w.heap.size 0 x := by
  have hg := heap_alloc_new w (.cells #[.string x.v, .int .i64 x.a, .bool x.b, .string x.t, .bool x.o] t (0, 0))
  exact ⟨cell_of_row _ _ 0 _ t _ hg, cell_of_row _ _ 1 _ t _ hg, cell_of_row _ _ 2 _ t _ hg, cell_of_row _ _ 3 _ t _ hg, cell_of_row _ _ 4 _ t _ hg⟩

/-- One word is appended. -/
theorem wpList_app5 (w : World) {ops : Array Oper} {rest : List Oper} {o : Oper} {a : Act} {Q : Exit → Act → World → Prop} (hgd : o.guard = none) (s x : Operand) (t : TypeId)
    (ho : o.op = .call { callee := .builtin .append, args := #[s, x], argTypes := #[t, t] })
    (e : TypeId) (ht : Trym.prog.underlying t = some (.slice e))
    (hinfo : (Trym.prog.info? e).map (fun i => (i.zero, i.size, i.bytes)) = some (some (.agg #[.string ByteArray.empty, .int .i64 0, .bool false, .string ByteArray.empty, .bool false]), 5, 56))
    (v : Value) (xs : List Wd) (hs : a.eval s = v) (hown : OwnW w e v xs) (hn : xs.length ≤ 1048576)
    (b c : Nat) (y : Wd) (hx : a.eval x = .slice (some ⟨b, 0, none⟩) 1 c) (hat : At w b 0 y)
    (h : ∀ w' g cap, OwnW w' e (.slice (some ⟨g, 0, none⟩) (xs.length + 1) cap) (xs ++ [y]) → w.grownBy w' v.ownBlock → (some g = v.ownBlock ∨ g = w.heap.size) → wpList Trym.prog ops Q rest (a.put o.dst (.slice (some ⟨g, 0, none⟩) (xs.length + 1) cap)) w') :
    wpList Trym.prog ops Q (o :: rest) a w := by
  refine wpList_app w hgd s x t ho e _ 5 56 ht hinfo rfl (by omega) (by omega) v xs.length (wcs xs) hs hown hn b c (cs5 y) hx rfl (cs5_at hat) (cs5_one y) fun w' g cap h1 h2 h3 => h w' g cap ?_ h2 h3
  unfold OwnW
  rw [wcs_append, List.length_append]
  simpa [wcs] using h1
end Go.Proofs.Qxb6602309aMods
