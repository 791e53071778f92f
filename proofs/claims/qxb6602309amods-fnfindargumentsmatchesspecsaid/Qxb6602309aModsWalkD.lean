import Derived.Test.Qxb6602309aModsWalkC
namespace Go.Proofs.Qxb6602309aMods
open Go.RowKit
set_option linter.unusedVariables false

theorem wordIn15 (x : Wd) (w : World) :
    Calls Trym.prog 15 #[.agg #[.string x.v, .int .i64 x.a, .bool x.b, .string x.t, .bool x.o]] w fun e w' => e = .returned (.agg #[.string x.v, .int .i64 x.a, .bool x.b, .string x.t, .bool x.o]) ∧ Below w.heap.size w w' := by
  go_enter Trym.func15, Trym.ntmps15
  go_wp2
  exact bodyPost_ret (v := .agg #[.string x.v, .int .i64 x.a, .bool x.b, .string x.t, .bool x.o]) (by simp [results, Trym.results15, go_sem]) rfl ⟨rfl, ((Below.refl _ _).alloc (Nat.le_refl _) _).alloc (by simp) _⟩

theorem wordOut21 (x : Wd) (w : World) :
    Calls Trym.prog 21 #[.agg #[.string x.v, .int .i64 x.a, .bool x.b, .string x.t, .bool x.o]] w fun e w' => e = .returned (.agg #[.string x.v, .int .i64 x.a, .bool x.b, .string x.t, .bool x.o]) ∧ Below w.heap.size w w' := by
  go_enter Trym.func21, Trym.ntmps21
  go_wp2
  exact bodyPost_ret (v := .agg #[.string x.v, .int .i64 x.a, .bool x.b, .string x.t, .bool x.o]) (by simp [results, Trym.results21, go_sem]) rfl ⟨rfl, ((Below.refl _ _).alloc (Nat.le_refl _) _).alloc (by simp) _⟩

theorem same12 (x : Wd) (w : World) :
    Calls Trym.prog 12 #[.agg #[.string x.v, .int .i64 x.a, .bool x.b, .string x.t, .bool x.o], .agg #[.string x.v, .int .i64 x.a, .bool x.b, .string x.t, .bool x.o]] w fun e w' => e = .returned (.bool true) ∧ Below w.heap.size w w' := by
  go_enter Trym.func12, Trym.ntmps12
  go_wp2
  go_ret
  exact ⟨rfl, ((Below.refl _ _).alloc (Nat.le_refl _) _).alloc (by simp) _⟩

theorem ret_bool {a b : Bool} (h : a = b) : Ending.returned (.bool a) = .returned (.bool b) := by rw [h]

theorem isExec18 (s : ByteArray) (w : World) :
    Calls Trym.prog 18 #[.string s] w fun e w' => e = .returned (.bool (isExec s)) ∧ w' = w := by
  go_enter Trym.func18, Trym.ntmps18
  go_wp2
  · have h1 : s.toList = [45, 101, 120, 101, 99] := by assumption
    go_ret
    exact ⟨ret_bool (by simp [isExec, h1]), rfl⟩
  · have h1 : s.toList = [45, 101, 120, 101, 99, 100, 105, 114] := by assumption
    go_ret
    exact ⟨ret_bool (by simp [isExec, h1]), rfl⟩
  · have h1 : s.toList = [45, 111, 107] := by assumption
    go_ret
    exact ⟨ret_bool (by simp [isExec, h1]), rfl⟩
  · go_ret
    exact ⟨rfl, rfl⟩

/-- The words handed out. -/
def Out (w : World) (a : Option Addr) (xs : List Wd) (e : Ending) (w' : World) : Prop :=
  ∃ a' : Option Addr, e = .returned (.slice a' xs.length xs.length) ∧ Wds w' a' xs ∧ (a' = none ↔ a = none) ∧ Below w.heap.size w w' ∧ ∀ x : Addr, a' = some x → w.heap.size ≤ x.block

set_option maxRecDepth 100000 in
set_option maxHeartbeats 1000000 in
theorem wordsOut17 (a : Option Addr) (cap : Nat) (xs : List Wd) (w : World) (h : Wds w a xs) (hl : xs.length ≤ 1048576) :
    Calls Trym.prog 17 #[.slice a xs.length cap] w fun e w' => Out w a xs e w' := by
  have qn : ∀ (w : World) (a : Option Addr) (n c n' c' : Nat), (binOp .eql 43 (.slice a n c) (.slice none n' c')).run Trym.prog w = .ok (.bool a.isNone) w := fun w a n c n' c' => Lib.run_eql_slice_nil w _ _ a n c n' c' Trym.underlying43
  cases a with
  | none =>
    obtain rfl := nil_of_none h
    go_enter Trym.func17, Trym.ntmps17
    go_wp2
    go_ret
    exact ⟨none, rfl, wds_nil _ _, Iff.rfl, Below.refl _ _, fun x hx => by cases hx⟩
  | some y =>
    have hmk := run_make5 26 38 Trym.underlying26 info38 xs.length hl
    go_enter Trym.func17, Trym.ntmps17
    go_wp2
    clear hmk
    go_loopw [4] (fun i wr => ∃ j : Nat, j ≤ xs.length ∧ i = .int .i64 j ∧ Fill5 wr w.heap.size xs.length j xs ∧ Below w.heap.size w wr) (fun i _ => xs.length - (intOf i).toNat)
    case atStart => exact ⟨0, by omega, rfl, fill5_start xs (mk5_size _), (Below.refl _ _).alloc (Nat.le_refl _) _⟩
    case round =>
      obtain ⟨j, hj, rfl, hf5, hbl⟩ := hrel
      by_cases hjl : j < xs.length
      · obtain ⟨b2, off2, hy, hat0⟩ := h j xs[j] (List.getElem?_eq_getElem hjl)
        obtain rfl : y = ⟨b2, off2, none⟩ := by simpa using hy
        have hat := hat0.keep (hbl.block b2 hat0.lt)
        have hx : xs[j]? = some xs[j] := List.getElem?_eq_getElem hjl
        generalize xs[j] = x at hat hx
        have HXX : Hid _ := hx
        have q0 := hat.c0
        have q1 := hat.c1
        have q2 := hat.c2
        have q3 := hat.c3
        have q4 := hat.c4
        clear hx hy
        go_wp2_with fail
        refine (wordOut21 x _).mono ?_
        rintro e w1 ⟨rfl, hb1⟩
        have hf6 := hf5.below hb1
        have hbl7 : Below w.heap.size w w1 := hbl.trans (hb1.mono hbl.size)
        have HX : Hid _ := hf6.step hjl HXX.out
        clear q0 q1 q2 q3 q4 hat
        obtain ⟨v0, o0⟩ := hf6.old (j * 5) (by omega)
        obtain ⟨v1, o1⟩ := hf6.old (j * 5 + 1) (by omega)
        obtain ⟨v2, o2⟩ := hf6.old (j * 5 + 2) (by omega)
        obtain ⟨v3, o3⟩ := hf6.old (j * 5 + 3) (by omega)
        obtain ⟨v4, o4⟩ := hf6.old (j * 5 + 4) (by omega)
        have z0 := hf6.free (j * 5)
        have z1 := hf6.free (j * 5 + 1)
        have z2 := hf6.free (j * 5 + 2)
        have z3 := hf6.free (j * 5 + 3)
        have z4 := hf6.free (j * 5 + 4)
        go_wp2
        go_roundw
        case rel => exact ⟨j + 1, hjl, by go_num, HX.out, put5_below hbl7 (Nat.le_refl _)⟩
        case measure => simp [intOf]; omega
      · obtain rfl : j = xs.length := by omega
        go_wp2
        go_ret
        exact ⟨_, rfl, hf5.wds, by simp, hbl, fun x hx => by cases hx; exact Nat.le_refl _⟩
end Go.Proofs.Qxb6602309aMods
