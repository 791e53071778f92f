import Derived.Test.Qxb6602309aModsMemE
import Derived.RegionTactic
import Derived.Deep.LoopGhost
namespace Go.Proofs.Qxb6602309aMods
open Go.RowKit
set_option linter.unusedVariables false

/-- What peek answers. -/
def Peeked (w : World) (B X Q N : Nat) (ps : List (List Wd)) (e : Ending) (w' : World) : Prop :=
  Fr w w' X Q ∧
  ((flat ps = [] ∧ e = .returned (.tuple #[.agg #[.string ByteArray.empty, .int .i64 0, .bool false, .string ByteArray.empty, .bool false], .bool false]) ∧ Que w' B X Q N []) ∨
   ∃ x p qs, flat ps = x :: (p ++ flat qs) ∧ e = .returned (.tuple #[.agg #[.string x.v, .int .i64 x.a, .bool x.b, .string x.t, .bool x.o], .bool true]) ∧ Que w' B X Q N (qs ++ [x :: p]))

theorem snoc_of {ps : List (List Wd)} (h : ps ≠ []) : ∃ qs p, ps = qs ++ [p] := by
  rcases List.eq_nil_or_concat ps with h1 | ⟨qs, p, h1⟩
  · exact absurd h1 h
  · exact ⟨qs, p, by simpa using h1⟩

/-- The block of a struct result, free to be written. -/
structure Box5 (w : World) (R : Nat) : Prop where
  size : R < w.heap.size
  old : ∀ j, j < 5 → ∃ v, w.cell? ⟨R, j, none⟩ = some v
  free : ∀ j, w.frozen? ⟨R, j, none⟩ = false

theorem box5_new (w : World) (c0 c1 c2 c3 c4 : Value) (t : TypeId) : Box5 (w.alloc (.cells #[c0, c1, c2, c3, c4] t (0, 0))) w.heap.size := by
  have hg := heap_alloc_new w (.cells #[c0, c1, c2, c3, c4] t (0, 0))
  refine ⟨by simp, fun j hj => ?_, fun j => frozen_of_row _ _ _ _ t hg⟩
  rw [cell_of_row _ _ j _ t (0, 0) hg]
  exact ⟨_, Array.getElem?_eq_getElem (by simpa using hj)⟩

theorem Box5.keep {w w' : World} {R : Nat} (h : Box5 w R) (hs : w.heap.size ≤ w'.heap.size) (hb : w'.heap[R]? = w.heap[R]?) : Box5 w' R :=
  ⟨Nat.lt_of_lt_of_le h.size hs, fun j hj => by
    obtain ⟨v, hv⟩ := h.old j hj
    exact ⟨v, (World.cell?_of_block (a := ⟨R, j, none⟩) hb).trans hv⟩, fun j => (World.frozen?_of_block (a := ⟨R, j, none⟩) hb).trans (h.free j)⟩

/-- The zero word. -/
def zeroW : Wd := ⟨⟨#[]⟩, 0, false, ⟨#[]⟩, false⟩

theorem Que.put5 {w : World} {B X Q N E o : Nat} {ps : List (List Wd)} {x : Wd} (h : Que w B X Q N ps) (hE : B ≤ E) : Que (put5 w E o x) B X Q N ps :=
  ((((h.setNew hE _ _).setNew hE _ _).setNew hE _ _).setNew hE _ _).setNew hE _ _
theorem Fr.put5 {a w : World} {X Q E o : Nat} {x : Wd} (h : Fr a w X Q) (hE : a.heap.size ≤ E) : Fr a (put5 w E o x) X Q :=
  ((((h.setNew hE _ _).setNew hE _ _).setNew hE _ _).setNew hE _ _).setNew hE _ _

theorem flat_two (qs : List (List Wd)) (x : Wd) (p : List Wd) : flat (qs ++ [x :: p]) = x :: (p ++ flat qs) := by rw [flat_snoc]; rfl

set_option maxRecDepth 100000 in
set_option maxHeartbeats 2000000 in
theorem peek22 (B X Q N : Nat) (ps : List (List Wd)) (w : World) (h : Que w B X Q N ps) (hB : B ≤ w.heap.size) :
    Calls Trym.prog 22 #[.pointer (some ⟨X, 0, none⟩)] w fun e w' => Peeked w B X Q N ps e w' := by
  go_enter Trym.func22, Trym.ntmps22
  go_wp2_with fail
  go_loopg [4] ps.length (fun k _ wr => ∃ qs : List (List Wd), qs.length ≤ k ∧ Aside (flat qs = flat ps) ∧ Que wr B X Q N qs ∧ Fr w wr X Q ∧ Box5 wr w.heap.size)
  case atStart => exact ⟨ps, Nat.le_refl _, rfl, h.alloc hB _, (Fr.refl _ _ _).alloc _, box5_new _ _ _ _ _ _ _⟩
  case round =>
    obtain ⟨qs, hk, hqs, hq, hfr, hbox⟩ := hrel
    obtain ⟨qa, hqa, hqa2⟩ := hq.ex
    have hbs := hbox.size
    obtain ⟨v0, o0⟩ := hbox.old 0 (by omega)
    obtain ⟨v1, o1⟩ := hbox.old 1 (by omega)
    obtain ⟨v2, o2⟩ := hbox.old 2 (by omega)
    obtain ⟨v3, o3⟩ := hbox.old 3 (by omega)
    obtain ⟨v4, o4⟩ := hbox.old 4 (by omega)
    have z0 := hbox.free 0
    have z1 := hbox.free 1
    have z2 := hbox.free 2
    have z3 := hbox.free 3
    have z4 := hbox.free 4
    have hXR : X < w.heap.size := Nat.lt_of_lt_of_le hq.hX hB
    have hQR : Q < w.heap.size := Nat.lt_of_lt_of_le hq.hQ hB
    by_cases hne : qs = []
    · subst hne
      simp only [List.length_nil] at hqa
      go_wp2
      refine bodyPost_ret (v := .tuple #[.agg #[.string ⟨#[]⟩, .int .i64 0, .bool false, .string ⟨#[]⟩, .bool false], .bool false]) (by simp [results, Trym.results22, go_sem, o0, o1, o2, o3, o4]) rfl ?_
      exact ⟨hfr.put5 (x := zeroW) (o := 0) (Nat.le_refl _), .inl ⟨hqs.out.symm, rfl, hq.put5 (x := zeroW) (o := 0) hB⟩⟩
    · obtain ⟨rs, p, rfl⟩ := snoc_of hne
      obtain rfl := hqa2 hne
      have hnl := hq.nle
      simp only [List.length_append, List.length_cons, List.length_nil, Nat.zero_add] at hqa hk hnl
      obtain ⟨pa, pc, hc, hw, hpc, hpa⟩ := hq.part rs.length p (by simp)
      have zx := hq.freeX
      clear hqa2 hne
      cases p with
      | nil =>
        simp only [List.length_nil] at hc
        go_wp2
        go_quiet (fail)
        go_wp2
        have hN : ((rs.length : Int)) ≤ (N : Int) := by have := hq.cap; simp at this; omega
        go_region
        go_wp2
        go_roundg rs.length
        case measure => omega
        case rel =>
          have hne : w.heap.size ≠ X := by omega
          exact ⟨rs, Nat.le_refl _, by have := hqs.out; rw [flat_drop_empty] at this; exact this, (hq.drewN _).cut, (hfr.drewN _).setX _ _, hbox.keep (by simp) (heap_setCell_other _ _ _ _ hne)⟩
      | cons x p =>
        simp only [List.length_cons] at hc
        obtain ⟨b, off, rfl, hat⟩ := hw 0 x rfl
        have q0 := hat.c0
        have q1 := hat.c1
        have q2 := hat.c2
        have q3 := hat.c3
        have q4 := hat.c4
        simp only [Nat.zero_mul, Nat.add_zero] at q0 q1 q2 q3 q4
        have hpl : p.length ≤ 1048576 := by have := hq.tle; rw [flat_two] at this; simp at this; omega
        have hbl : b < w.heap.size := Nat.lt_of_lt_of_le (hpa _ rfl).2.2 hB
        go_wp2
        go_quiet (fail)
        go_wp2
        refine bodyPost_ret (v := .tuple #[.agg #[.string x.v, .int .i64 x.a, .bool x.b, .string x.t, .bool x.o], .bool true]) (by simp [results, Trym.results22, go_sem, o0, o1, o2, o3, o4]) rfl ?_
        exact ⟨(hfr.drewN nq).put5 (x := x) (o := 0) (Nat.le_refl _), .inr ⟨x, p, rs, by rw [← hqs.out, flat_two], rfl, (hq.drewN nq).put5 (x := x) (o := 0) hB⟩⟩
end Go.Proofs.Qxb6602309aMods
