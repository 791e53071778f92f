import Derived.Test.Qxb6602309aModsMemE
namespace Go.Proofs.Qxb6602309aMods
open Go.RowKit
set_option linter.unusedVariables false

/-- A command as it lies in memory: the queue's block K holds the slice of its words; neither lies in the rows r1, r2. -/
def CmdAt (w : World) (B : Nat) (r1 r2 : Option Nat) (K : Nat) (p : List Wd) : Prop :=
  B ≤ K ∧ K < w.heap.size ∧ some K ≠ r1 ∧ some K ≠ r2 ∧ p.length ≤ 1048576 ∧ ∃ pa pc, w.cell? ⟨K, 0, none⟩ = some (.slice pa p.length pc) ∧ Wds w pa p ∧
    ∀ x : Addr, pa = some x → B ≤ x.block ∧ x.block < w.heap.size ∧ some x.block ≠ r1 ∧ some x.block ≠ r2

theorem CmdAt.step {w w' : World} {B : Nat} {r1 r2 r1' r2' : Option Nat} {K : Nat} {p : List Wd} (h : CmdAt w B r1 r2 K p) (hs : w.heap.size ≤ w'.heap.size)
    (hb : ∀ k, k < w.heap.size → B ≤ k → some k ≠ r1 → some k ≠ r2 → w'.heap[k]? = w.heap[k]?)
    (h1 : ∀ g, r1' = some g → some g = r1 ∨ w.heap.size ≤ g) (h2 : ∀ g, r2' = some g → some g = r2 ∨ w.heap.size ≤ g) : CmdAt w' B r1' r2' K p := by
  have aux : ∀ k, k < w.heap.size → some k ≠ r1 → some k ≠ r2 → some k ≠ r1' ∧ some k ≠ r2' := fun k hk a b =>
    ⟨fun e => by rcases h1 k e.symm with g | g; exact a g; omega, fun e => by rcases h2 k e.symm with g | g; exact b g; omega⟩
  obtain ⟨a1, a2, a3, a4, a5, pa, pc, a6, a7, a8⟩ := h
  refine ⟨a1, Nat.lt_of_lt_of_le a2 hs, (aux K a2 a3 a4).1, (aux K a2 a3 a4).2, a5, pa, pc, (World.cell?_of_block (a := ⟨K, 0, none⟩) (hb K a2 a1 a3 a4)).trans a6, a7.keep (fun x hx => ?_), fun x hx => ?_⟩
  · obtain ⟨b1, b2, b3, b4⟩ := a8 x hx
    exact hb _ b2 b1 b3 b4
  · obtain ⟨b1, b2, b3, b4⟩ := a8 x hx
    exact ⟨b1, Nat.lt_of_lt_of_le b2 hs, (aux _ b2 b3 b4).1, (aux _ b2 b3 b4).2⟩

/-- The commands. -/
def CmdRow (w : World) (B : Nat) (dv cv : Value) (c : List (List Wd)) : Prop :=
  ∃ cs : List Value, w.ownsRow 0 42 1 cv c.length cs ∧ ∀ (i : Nat) (p : List Wd), c[i]? = some p → ∃ K, cs[i]? = some (Value.slice (some ⟨K, 0, none⟩) 1 1) ∧ CmdAt w B dv.ownBlock cv.ownBlock K p

theorem cmdRow_nil (w : World) (B : Nat) (dv : Value) : CmdRow w B dv (.slice none 0 0) [] := ⟨[], World.ownsRow_nil w 0 42 1, fun i p h => by simp at h⟩

theorem CmdRow.alloc {w : World} {B : Nat} {dv cv : Value} {c : List (List Wd)} (h : CmdRow w B dv cv c) (o : Obj) : CmdRow (w.alloc o) B dv cv c := by
  obtain ⟨cs, h1, h2⟩ := h
  refine ⟨cs, h1.alloc o, fun i p hp => ?_⟩
  obtain ⟨K, h3, h4⟩ := h2 i p hp
  exact ⟨K, h3, h4.step (by simp) (fun k hk _ _ _ => Below.heap_alloc w o k hk) (fun g hg => .inl hg.symm) (fun g hg => .inl hg.symm)⟩

theorem CmdRow.fr {w w' : World} {B X Q : Nat} {dv cv : Value} {c : List (List Wd)} (h : CmdRow w B dv cv c) (hf : Fr w w' X Q) (hX : X < B) (hQ : Q < B) (hv : ∀ g, cv.ownBlock = some g → B ≤ g) : CmdRow w' B dv cv c := by
  obtain ⟨cs, h1, h2⟩ := h
  refine ⟨cs, ⟨h1.1, ?_⟩, fun i p hp => ?_⟩
  · rcases h1.2 with hn | ⟨g, cap, cur, rfl, hb, hgg, rest⟩
    · exact .inl hn
    · have := hv g rfl
      exact .inr ⟨g, cap, cur, rfl, hb, (hf.block g (Array.getElem?_eq_some_iff.1 hgg).1 (by omega) (by omega)).trans hgg, rest⟩
  · obtain ⟨K, h3, h4⟩ := h2 i p hp
    exact ⟨K, h3, h4.step hf.size (fun k hk hb _ _ => hf.block k hk (by omega) (by omega)) (fun g hg => .inl hg.symm) (fun g hg => .inl hg.symm)⟩

theorem CmdRow.appD {w w' : World} {B : Nat} {dv cv : Value} {d : List Wd} {c : List (List Wd)} {g n cap : Nat} (h : CmdRow w B dv cv c) (hd : OwnW w 45 dv d) (hg : w.grownBy w' dv.ownBlock) (hor : some g = dv.ownBlock ∨ g = w.heap.size) :
    CmdRow w' B (.slice (some ⟨g, 0, none⟩) n cap) cv c := by
  obtain ⟨cs, h1, h2⟩ := h
  refine ⟨cs, h1.kept hg (own_ne h1 hd (by decide)), fun i p hp => ?_⟩
  obtain ⟨K, h3, h4⟩ := h2 i p hp
  refine ⟨K, h3, h4.step hg.size (fun k hk _ a _ => hg.block k hk a) (fun g' hg' => ?_) (fun g hg => .inl hg.symm)⟩
  have e : g = g' := by simpa [Value.ownBlock] using hg'
  subst e
  rcases hor with h | h
  · exact .inl h
  · right; omega

/-- A command is appended. -/
theorem wpList_appQ (w : World) (B : Nat) (dv : Value) {ops : Array Oper} {rest : List Oper} {o : Oper} {a : Act} {Q : Exit → Act → World → Prop} (hgd : o.guard = none) (s x : Operand)
    (ho : o.op = .call { callee := .builtin .append, args := #[s, x], argTypes := #[47, 47] })
    (hinfo : (Trym.prog.info? 42).map (fun i => (i.zero, i.size, i.bytes)) = some (some (.slice none 0 0), 1, 24))
    (cv : Value) (c : List (List Wd)) (hs : a.eval s = cv) (hown : CmdRow w B dv cv c) (hn : c.length ≤ 1048576)
    (b c2 K : Nat) (p : List Wd) (hx : a.eval x = .slice (some ⟨b, 0, none⟩) 1 c2) (hat : w.cell? ⟨b, 0, none⟩ = some (.slice (some ⟨K, 0, none⟩) 1 1)) (hK : CmdAt w B dv.ownBlock cv.ownBlock K p)
    (h : ∀ w' g cap, CmdRow w' B dv (.slice (some ⟨g, 0, none⟩) (c.length + 1) cap) (c ++ [p]) → w.grownBy w' cv.ownBlock → (some g = cv.ownBlock ∨ g = w.heap.size) → wpList Trym.prog ops Q rest (a.put o.dst (.slice (some ⟨g, 0, none⟩) (c.length + 1) cap)) w') :
    wpList Trym.prog ops Q (o :: rest) a w := by
  obtain ⟨cs, h1, h2⟩ := hown
  refine wpList_app w hgd s x 47 ho 42 _ 1 24 Trym.underlying47 hinfo rfl (by omega) (by omega) cv c.length cs hs h1 hn b c2 [.slice (some ⟨K, 0, none⟩) 1 1] hx rfl (fun j u hu => ?_) (fun u hu => ?_) fun w' g cap h3 h4 h5 => h w' g cap ?_ h4 h5
  · match j, hu with
    | 0, hu => rw [← hu]; exact hat
    | j + 1, hu => simp at hu
  · simp only [List.mem_cons, List.not_mem_nil, or_false] at hu
    subst hu; rfl
  · have hcl : cs.length = c.length := by have := h1.1; omega
    have step : ∀ K p, CmdAt w B dv.ownBlock cv.ownBlock K p → CmdAt w' B dv.ownBlock (Value.slice (some ⟨g, 0, none⟩) (c.length + 1) cap).ownBlock K p := fun K p hk =>
      hk.step h4.size (fun k hk _ _ b => h4.block k hk b) (fun g hg => .inl hg.symm) (fun g' hg' => by
        have e : g = g' := by simpa [Value.ownBlock] using hg'
        subst e
        rcases h5 with h | h
        · exact .inl h
        · right; omega)
    refine ⟨cs ++ [.slice (some ⟨K, 0, none⟩) 1 1], by simpa using h3, fun i q hq => ?_⟩
    by_cases e : i < c.length
    · rw [List.getElem?_append_left e] at hq
      obtain ⟨K', g1, g2⟩ := h2 i q hq
      exact ⟨K', by rw [List.getElem?_append_left (by omega)]; exact g1, step K' q g2⟩
    · have hi := lt_of_get hq
      simp only [List.length_append, List.length_cons, List.length_nil] at hi
      obtain rfl : i = c.length := by omega
      rw [List.getElem?_append_right (Nat.le_refl _)] at hq
      simp only [Nat.sub_self, List.getElem?_cons_zero, Option.some.injEq] at hq
      subst hq
      exact ⟨K, by rw [List.getElem?_append_right (by omega), hcl]; simp, step K _ hK⟩

theorem ownW_kept_q {w w' : World} {B : Nat} {dv cv : Value} {d : List Wd} {c : List (List Wd)} (hd : OwnW w 45 dv d) (hc : CmdRow w B dv cv c) (hg : w.grownBy w' cv.ownBlock) : OwnW w' 45 dv d := by
  obtain ⟨cs, h1, h2⟩ := hc
  exact World.ownsRow.kept hd hg (own_ne hd h1 (by decide))
end Go.Proofs.Qxb6602309aMods
