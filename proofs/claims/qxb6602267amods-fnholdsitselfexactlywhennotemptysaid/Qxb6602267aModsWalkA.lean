import Derived.Test.Qxb6602267aModsProg
import Derived.Test.Qxb6602267aModsPlain
import Derived.WalkKit
import Derived.WalkLawsBesides
import Derived.WalkSpells
import Derived.Laws.BytesArg
import Derived.Deep.OwnRows
namespace Go.Proofs.Qxb6602267aMods
open Go.RowKit
set_option linter.unusedVariables false

/-- The ending hands back some bool. -/
def RetBool (e : Ending) : Prop := ∃ b, e = .returned (.bool b)

/-- A slice of bytes as the conversion to a string reads it. -/
structure Str (w : World) (a : Option Addr) (len cap : Nat) (k : ByteArray) : Prop where
  conv : ∀ n, (convert 22 9 (.slice a len cap)).run Trym.prog (w.drewN n) = .ok (.string k) (w.drewN n)
  size : k.size = len

theorem Str.at_ {w : World} {a : Option Addr} {len cap : Nat} {k : ByteArray} (h : Str w a len cap k) : (convert 22 9 (.slice a len cap)).run Trym.prog w = .ok (.string k) w := h.conv 0

theorem ret_bool {a b : Bool} (h : a = b) : Ending.returned (.bool a) = .returned (.bool b) := by rw [h]
theorem len_toList (s : ByteArray) : s.toList.length = s.size := by rw [ByteArray.toList_eq]; simp
theorem nil_of {r : ByteArray} {l : Nat} (h : r.size = l) (hl : ((l : Int) == 0) = true) : r.toList = [] := by
  apply List.eq_nil_of_length_eq_zero
  rw [len_toList, h]; simpa using hl
theorem ne_of {r : ByteArray} {l : Nat} (h : r.size = l) (hl : ((l : Int) == 0) = false) : r.toList ≠ [] := by
  intro e
  have := congrArg List.length e
  rw [len_toList, h] at this
  simp at hl this; omega

theorem holds12_nil (s e : ByteArray) (a1 : Option Addr) (l1 c1 : Nat) (a2 : Option Addr) (l2 c2 : Nat) (k r : ByteArray) (w : World) (hk : Str w a1 l1 c1 k) (hr : Str w a2 l2 c2 r) (he : e.toList.isEmpty = true) :
    Calls Trym.prog 12 #[.string s, .string e, .slice a1 l1 c1, .slice a2 l2 c2] w fun e' w' => e' = .returned (.bool (holdsB s.toList e.toList k.toList r.toList)) ∧ w' = w := by
  have q1 := hk.at_
  have q2 := hr.at_
  have he2 : e.toList = [] := by simpa using he
  cases hl : ((l2 : Int) == 0) with
  | true =>
    have HV : Hid _ := hB_nil0 (s := s.toList) (k := k.toList) he2 (nil_of hr.size hl)
    clear he2
    go_enter Trym.func12, Trym.ntmps12
    go_wp2
    go_ret
    exact ⟨ret_bool HV.out.symm, rfl⟩
  | false =>
    have HV : Hid _ := hB_nil1 (s := s.toList) (k := k.toList) he2 (ne_of hr.size hl)
    have hpos : (0 : Int) < (l2 : Int) := by simp at hl; omega
    clear he2
    go_enter Trym.func12, Trym.ntmps12
    go_wp2
    go_ret
    exact ⟨ret_bool HV.out.symm, rfl⟩

theorem holds12_zero (s e : ByteArray) (a1 : Option Addr) (l1 c1 : Nat) (a2 : Option Addr) (l2 c2 : Nat) (k r : ByteArray) (w : World) (hk : Str w a1 l1 c1 k) (hr : Str w a2 l2 c2 r) (he : e.toList.isEmpty = false) (h0 : (e.toList == [0]) = true) :
    Calls Trym.prog 12 #[.string s, .string e, .slice a1 l1 c1, .slice a2 l2 c2] w fun e' w' => e' = .returned (.bool (holdsB s.toList e.toList k.toList r.toList)) ∧ w' = w := by
  have q1 := hk.at_
  have q2 := hr.at_
  have he2 : e.toList = [0] := by simpa using h0
  have he1 : e.toList ≠ [] := by rw [he2]; decide
  cases hb : Op.bytesLess k.toList s.toList with
  | true =>
    have HV : Hid _ := hB_lt (s := s.toList) (k := k.toList) (r := r.toList) he1 hb
    clear he2 he1
    go_enter Trym.func12, Trym.ntmps12
    go_wp2
    go_ret
    exact ⟨ret_bool HV.out.symm, rfl⟩
  | false =>
    have HV : Hid _ := hB_zero (s := s.toList) (k := k.toList) (r := r.toList) he2 hb
    clear he2 he1
    go_enter Trym.func12, Trym.ntmps12
    go_wp2
    all_goals
      go_ret
      exact ⟨ret_bool HV.out.symm, rfl⟩

theorem holds12_else (s e : ByteArray) (a1 : Option Addr) (l1 c1 : Nat) (a2 : Option Addr) (l2 c2 : Nat) (k r : ByteArray) (w : World) (hk : Str w a1 l1 c1 k) (hr : Str w a2 l2 c2 r) (he : e.toList.isEmpty = false) (h0 : (e.toList == [0]) = false) :
    Calls Trym.prog 12 #[.string s, .string e, .slice a1 l1 c1, .slice a2 l2 c2] w fun e' w' => e' = .returned (.bool (holdsB s.toList e.toList k.toList r.toList)) ∧ w' = w := by
  have q1 := hk.at_
  have q2 := hr.at_
  have he1 : e.toList ≠ [] := by simpa using he
  have he2 : e.toList ≠ [0] := by simpa using h0
  cases hb : Op.bytesLess k.toList s.toList with
  | true =>
    have HV : Hid _ := hB_lt (s := s.toList) (k := k.toList) (r := r.toList) he1 hb
    clear he2 he1
    go_enter Trym.func12, Trym.ntmps12
    go_wp2
    go_ret
    exact ⟨ret_bool HV.out.symm, rfl⟩
  | false =>
    cases hc : Op.bytesLess k.toList e.toList with
    | false =>
      have HV : Hid _ := hB_ge (s := s.toList) (k := k.toList) (r := r.toList) he1 he2 hb hc
      clear he2 he1
      go_enter Trym.func12, Trym.ntmps12
      go_wp2
      go_ret
      exact ⟨ret_bool HV.out.symm, rfl⟩
    | true =>
      cases hl : ((l2 : Int) == 0) with
      | true =>
        have HV : Hid _ := hB_r0 (s := s.toList) (k := k.toList) (r := r.toList) he1 he2 hb hc (nil_of hr.size hl)
        clear he2 he1
        go_enter Trym.func12, Trym.ntmps12
        go_wp2
        go_ret
        exact ⟨ret_bool HV.out.symm, rfl⟩
      | false =>
        have hpos : (0 : Int) < (l2 : Int) := by simp at hl; omega
        cases hz : (r.toList == [0]) with
        | true =>
          have HV : Hid _ := hB_r1 (s := s.toList) (k := k.toList) (r := r.toList) he1 he2 hb hc (by simpa using hz)
          clear he2 he1
          go_enter Trym.func12, Trym.ntmps12
          go_wp2
          go_ret
          exact ⟨ret_bool HV.out.symm, rfl⟩
        | false =>
          have HV : Hid _ := hB_r2 (s := s.toList) (k := k.toList) (r := r.toList) he1 he2 hb hc (ne_of hr.size hl) (by simpa using hz)
          clear he2 he1
          go_enter Trym.func12, Trym.ntmps12
          go_wp2
          go_ret
          exact ⟨ret_bool HV.out.symm, rfl⟩

theorem holds12 (s e : ByteArray) (a1 : Option Addr) (l1 c1 : Nat) (a2 : Option Addr) (l2 c2 : Nat) (k r : ByteArray) (w : World) (hk : Str w a1 l1 c1 k) (hr : Str w a2 l2 c2 r) :
    Calls Trym.prog 12 #[.string s, .string e, .slice a1 l1 c1, .slice a2 l2 c2] w fun e' w' => e' = .returned (.bool (holdsB s.toList e.toList k.toList r.toList)) ∧ w' = w := by
  cases he : e.toList.isEmpty with
  | true => exact holds12_nil s e a1 l1 c1 a2 l2 c2 k r w hk hr he
  | false =>
    cases h0 : (e.toList == [0]) with
    | true => exact holds12_zero s e a1 l1 c1 a2 l2 c2 k r w hk hr he h0
    | false => exact holds12_else s e a1 l1 c1 a2 l2 c2 k r w hk hr he h0

theorem zz8 (s e : ByteArray) (a1 : Option Addr) (l1 c1 : Nat) (a2 : Option Addr) (l2 c2 : Nat) (k r : ByteArray) (w : World) (hk : Str w a1 l1 c1 k) (hr : Str w a2 l2 c2 r) :
    Calls Trym.prog 8 #[.string s, .string e, .slice a1 l1 c1, .slice a2 l2 c2] w fun e' w' => e' = .returned (.bool (holdsB s.toList e.toList k.toList r.toList)) ∧ w' = w := by
  go_enter Trym.func8, Trym.ntmps8
  go_wp2_with fail
  refine (holds12 s e a1 l1 c1 a2 l2 c2 k r _ hk hr).mono ?_
  rintro e' w1 ⟨rfl, rfl⟩
  go_wp2_with fail
  go_ret
  exact ⟨rfl, rfl⟩
end Go.Proofs.Qxb6602267aMods
