import Derived.Test.Qxb6602267aModsWalkC
namespace Go.Proofs.Qxb6602267aMods
open Go.RowKit
set_option linter.unusedVariables false

theorem self_end {k r : ByteArray} {l : Nat} (h : r.size = l) : holdsB k.toList r.toList k.toList r.toList = (((l : Int) == 0) || (r.toList == [0]) || Op.bytesLess k.toList r.toList) := by
  rw [holds_self]
  have e : decide (r.toList = []) = ((l : Int) == 0) := by
    cases hl : ((l : Int) == 0) with
    | true => rw [nil_of h hl]; rfl
    | false => simpa using ne_of h hl
  rw [e]; rfl

set_option maxHeartbeats 1000000 in
theorem top4 (a1 : Option Addr) (l1 c1 : Nat) (a2 : Option Addr) (l2 c2 : Nat) (Z1 Z2 : Nat → Int) (w : World) (h1 : Byts w a1 l1 Z1) (h2 : Byts w a2 l2 Z2) :
    Calls Trym.prog 4 #[.slice a1 l1 c1, .slice a2 l2 c2] w fun e w' => e = .returned (.bool true) ∧ Below w.heap.size w w' := by
  have hl1 := h1.len
  have hl2 := h2.len
  go_enter Trym.func4, Trym.ntmps4
  go_wp2_with fail
  refine (bytes10 a1 l1 c1 a2 l2 c2 _ (by unfold maxLen; exact hl1) (by unfold maxLen; exact hl2)).mono ?_
  rintro e w1 ⟨⟨b, rfl⟩, rfl⟩
  cases b
  · go_wp2_with fail
    go_ret
    exact ⟨rfl, Below.refl _ _⟩
  by_cases d1 : 524288 < l1
  · go_wp2_with fail
    go_ret
    exact ⟨rfl, Below.refl _ _⟩
  by_cases d2 : 524288 < l2
  · go_wp2_with fail
    go_ret
    exact ⟨rfl, Below.refl _ _⟩
  go_wp2_with fail
  refine (clone7 a1 l1 c1 Z1 _ h1 (by omega)).mono ?_
  rintro e w2 ⟨a1', k, rfl, ho1, hb2⟩
  have h2' : Byts w2 a2 l2 Z2 := ⟨fun i hi => by
    obtain ⟨b, off, e, hc⟩ := h2.cell i hi
    exact ⟨b, off, e, (hb2.cell (p := ⟨b, off + i, none⟩) (block_lt_of_cell hc)).trans hc⟩, h2.nil, h2.len⟩
  go_wp2_with fail
  refine (clone7 a2 l2 c2 Z2 _ h2' (by omega)).mono ?_
  rintro e w3 ⟨a2', r, rfl, ho2, hb3⟩
  have hb4 : Below w1.heap.size w1 w3 := hb2.trans (hb3.mono hb2.size)
  have s1 := (ho1.below hb3).now
  have s2 := ho2.now
  have q1 := s1.at_
  have q2 := s2.at_
  have HE : Hid _ := self_end (k := k) s2.size
  clear h1 h2 h2' ho1 ho2 hb2 hb3
  cases hl : ((l2 : Int) == 0) with
  | true =>
    rw [hl] at HE
    go_wp2_with fail
    refine (zz8 k r a1' l1 l1 a2' l2 l2 k r _ s1 s2).mono ?_
    rintro e' w4 ⟨rfl, rfl⟩
    go_wp2_with fail
    go_ret
    refine ⟨ret_bool ?_, hb4⟩
    rw [HE.out]; simp
  | false =>
    have hpos : (0 : Int) < (l2 : Int) := by simp at hl; omega
    rw [hl] at HE
    cases hz : (r.toList == [0]) with
    | true =>
      rw [hz] at HE
      go_wp2_with fail
      refine (zz8 k r a1' l1 l1 a2' l2 l2 k r _ s1 s2).mono ?_
      rintro e' w4 ⟨rfl, rfl⟩
      go_wp2_with fail
      go_ret
      refine ⟨ret_bool ?_, hb4⟩
      rw [HE.out]; simp
    | false =>
      rw [hz] at HE
      go_wp2_with fail
      refine (zz8 k r a1' l1 l1 a2' l2 l2 k r _ s1 s2).mono ?_
      rintro e' w4 ⟨rfl, rfl⟩
      go_wp2_with fail
      go_ret
      refine ⟨ret_bool ?_, hb4⟩
      rw [HE.out]; simp

set_option maxHeartbeats 1000000 in
theorem top3 (s e : ByteArray) (a1 : Option Addr) (l1 c1 : Nat) (a2 : Option Addr) (l2 c2 : Nat) (Z1 Z2 : Nat → Int) (w : World) (hs : s.size ≤ maxLen) (he : e.size ≤ maxLen) (h1 : Byts w a1 l1 Z1) (h2 : Byts w a2 l2 Z2) :
    Calls Trym.prog 3 #[.string s, .string e, .slice a1 l1 c1, .slice a2 l2 c2] w fun e w' => e = .returned (.bool true) ∧ Below w.heap.size w w' := by
  have hl1 := h1.len
  have hl2 := h2.len
  have hs' := hs
  have he' := he
  unfold maxLen at hs' he'
  go_enter Trym.func3, Trym.ntmps3
  go_wp2_with fail
  refine (bytes6 s e a1 l1 c1 a2 l2 c2 _ hs he (by unfold maxLen; exact hl1) (by unfold maxLen; exact hl2)).mono ?_
  rintro e' w1 ⟨⟨b, rfl⟩, rfl⟩
  cases b
  · go_wp2_with fail
    go_ret
    exact ⟨rfl, Below.refl _ _⟩
  by_cases d1 : 262144 < s.size
  · go_wp2_with fail
    go_ret
    exact ⟨rfl, Below.refl _ _⟩
  by_cases d2 : 262144 < e.size
  · go_wp2_with fail
    go_ret
    exact ⟨rfl, Below.refl _ _⟩
  by_cases d3 : 262144 < l1
  · go_wp2_with fail
    go_ret
    exact ⟨rfl, Below.refl _ _⟩
  by_cases d4 : 262144 < l2
  · go_wp2_with fail
    go_ret
    exact ⟨rfl, Below.refl _ _⟩
  go_wp2_with fail
  refine (clone7 a1 l1 c1 Z1 _ h1 (by omega)).mono ?_
  rintro e' w2 ⟨a1', k, rfl, ho1, hb2⟩
  have h2' : Byts w2 a2 l2 Z2 := ⟨fun i hi => by
    obtain ⟨b, off, e, hc⟩ := h2.cell i hi
    exact ⟨b, off, e, (hb2.cell (p := ⟨b, off + i, none⟩) (block_lt_of_cell hc)).trans hc⟩, h2.nil, h2.len⟩
  go_wp2_with fail
  refine (clone7 a2 l2 c2 Z2 _ h2' (by omega)).mono ?_
  rintro e' w3 ⟨a2', r, rfl, ho2, hb3⟩
  have hb4 : Below w1.heap.size w1 w3 := hb2.trans (hb3.mono hb2.size)
  have s1 := (ho1.below hb3).now
  have s2 := ho2.now
  have hks : k.size ≤ 1048576 := by rw [s1.size]; omega
  go_wp2_with fail
  refine (zz8 s e a1' l1 l1 a2' l2 l2 k r _ s1 s2).mono ?_
  rintro e' w4 ⟨rfl, rfl⟩
  go_wp2_with fail
  refine (model9 s e a1' l1 l1 a2' l2 l2 k r _ s1 s2 (by omega) hks).mono ?_
  rintro e' w5 ⟨rfl, rfl⟩
  have HM : Hid _ := holds_model s.toList e.toList k.toList r.toList
  go_wp2_with fail
  go_ret
  refine ⟨ret_bool ?_, hb4⟩
  rw [HM.out]; simp
end Go.Proofs.Qxb6602267aMods
