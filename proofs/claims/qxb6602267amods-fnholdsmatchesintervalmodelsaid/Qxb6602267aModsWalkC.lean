import Derived.Test.Qxb6602267aModsWalkB
import Derived.Deep.Light
namespace Go.Proofs.Qxb6602267aMods
open Go.RowKit
set_option linter.unusedVariables false
set_option linter.unusedSimpArgs false

theorem toList_zero (s : ByteArray) : (s ++ ⟨#[0]⟩).toList = s.toList ++ [0] := by rw [ByteArray.toList_eq, ByteArray.toList_eq]; simp

set_option maxHeartbeats 400000 in
theorem model_nn (s e : ByteArray) (a1 : Option Addr) (l1 c1 : Nat) (a2 : Option Addr) (l2 c2 : Nat) (k r : ByteArray) (w : World) (hk : Str w a1 l1 c1 k) (hr : Str w a2 l2 c2 r) (hs : s.size ≤ 1048576) (hkk : k.size ≤ 1048576) (he : e.toList = []) (hz : r.toList = []) :
    Calls Trym.prog 9 #[.string s, .string e, .slice a1 l1 c1, .slice a2 l2 c2] w fun e' w' => e' = .returned (.bool (modelB s.toList e.toList k.toList r.toList)) ∧ w' = w := by
  have q1 := hk.at_
  have q2 := hr.at_
  have b1 : e.toList.isEmpty = true := by simp [he]
  have b2 : (e.toList == [0]) = false := by rw [he]; rfl
  have b3 : r.toList.isEmpty = true := by simp [hz]
  have b4 : (r.toList == [0]) = false := by rw [hz]; rfl
  have HV : Hid _ := mB_nn (s := s.toList) (k := k.toList) he hz
  clear he hz
  clear hk hr
  go_enter Trym.func9, Trym.ntmps9
  go_wp2
  all_goals
    go_ret
    refine ⟨ret_bool ?_, rfl⟩
    rw [HV.out]
    first | done | (go_light; clear q1 q2 HV; simp_all [ble, bl, toList_zero])

set_option maxHeartbeats 400000 in
theorem model_nz (s e : ByteArray) (a1 : Option Addr) (l1 c1 : Nat) (a2 : Option Addr) (l2 c2 : Nat) (k r : ByteArray) (w : World) (hk : Str w a1 l1 c1 k) (hr : Str w a2 l2 c2 r) (hs : s.size ≤ 1048576) (hkk : k.size ≤ 1048576) (he : e.toList = []) (hz : r.toList = [0]) :
    Calls Trym.prog 9 #[.string s, .string e, .slice a1 l1 c1, .slice a2 l2 c2] w fun e' w' => e' = .returned (.bool (modelB s.toList e.toList k.toList r.toList)) ∧ w' = w := by
  have q1 := hk.at_
  have q2 := hr.at_
  have b1 : e.toList.isEmpty = true := by simp [he]
  have b2 : (e.toList == [0]) = false := by rw [he]; rfl
  have b3 : r.toList.isEmpty = false := by simp [hz]
  have b4 : (r.toList == [0]) = true := by simp [hz]
  have HV : Hid _ := mB_ne (s := s.toList) (k := k.toList) he (by rw [hz]; decide : r.toList ≠ [])
  clear he hz
  clear hk hr
  go_enter Trym.func9, Trym.ntmps9
  go_wp2
  all_goals
    go_ret
    refine ⟨ret_bool ?_, rfl⟩
    rw [HV.out]
    first | done | (go_light; clear q1 q2 HV; simp_all [ble, bl, toList_zero])

set_option maxHeartbeats 400000 in
theorem model_ne (s e : ByteArray) (a1 : Option Addr) (l1 c1 : Nat) (a2 : Option Addr) (l2 c2 : Nat) (k r : ByteArray) (w : World) (hk : Str w a1 l1 c1 k) (hr : Str w a2 l2 c2 r) (hs : s.size ≤ 1048576) (hkk : k.size ≤ 1048576) (he : e.toList = []) (hz : r.toList ≠ []) (hz0 : r.toList ≠ [0]) :
    Calls Trym.prog 9 #[.string s, .string e, .slice a1 l1 c1, .slice a2 l2 c2] w fun e' w' => e' = .returned (.bool (modelB s.toList e.toList k.toList r.toList)) ∧ w' = w := by
  have q1 := hk.at_
  have q2 := hr.at_
  have b1 : e.toList.isEmpty = true := by simp [he]
  have b2 : (e.toList == [0]) = false := by rw [he]; rfl
  have b3 : r.toList.isEmpty = false := by simpa using hz
  have b4 : (r.toList == [0]) = false := by simpa using hz0
  have HV : Hid _ := mB_ne (s := s.toList) (k := k.toList) he hz
  clear he hz hz0
  clear hk hr
  go_enter Trym.func9, Trym.ntmps9
  go_wp2
  all_goals
    go_ret
    refine ⟨ret_bool ?_, rfl⟩
    rw [HV.out]
    first | done | (go_light; clear q1 q2 HV; simp_all [ble, bl, toList_zero])

set_option maxHeartbeats 400000 in
theorem model_zn (s e : ByteArray) (a1 : Option Addr) (l1 c1 : Nat) (a2 : Option Addr) (l2 c2 : Nat) (k r : ByteArray) (w : World) (hk : Str w a1 l1 c1 k) (hr : Str w a2 l2 c2 r) (hs : s.size ≤ 1048576) (hkk : k.size ≤ 1048576) (he : e.toList = [0]) (hz : r.toList = []) :
    Calls Trym.prog 9 #[.string s, .string e, .slice a1 l1 c1, .slice a2 l2 c2] w fun e' w' => e' = .returned (.bool (modelB s.toList e.toList k.toList r.toList)) ∧ w' = w := by
  have q1 := hk.at_
  have q2 := hr.at_
  have b1 : e.toList.isEmpty = false := by simp [he]
  have b2 : (e.toList == [0]) = true := by simp [he]
  have b3 : r.toList.isEmpty = true := by simp [hz]
  have b4 : (r.toList == [0]) = false := by rw [hz]; rfl
  have HV : Hid _ := mB_z (s := s.toList) (k := k.toList) (r := r.toList) he
  clear he hz
  clear hk hr
  go_enter Trym.func9, Trym.ntmps9
  go_wp2
  all_goals
    go_ret
    refine ⟨ret_bool ?_, rfl⟩
    rw [HV.out]
    first | done | (go_light; clear q1 q2 HV; simp_all [ble, bl, toList_zero])

set_option maxHeartbeats 400000 in
theorem model_zz (s e : ByteArray) (a1 : Option Addr) (l1 c1 : Nat) (a2 : Option Addr) (l2 c2 : Nat) (k r : ByteArray) (w : World) (hk : Str w a1 l1 c1 k) (hr : Str w a2 l2 c2 r) (hs : s.size ≤ 1048576) (hkk : k.size ≤ 1048576) (he : e.toList = [0]) (hz : r.toList = [0]) :
    Calls Trym.prog 9 #[.string s, .string e, .slice a1 l1 c1, .slice a2 l2 c2] w fun e' w' => e' = .returned (.bool (modelB s.toList e.toList k.toList r.toList)) ∧ w' = w := by
  have q1 := hk.at_
  have q2 := hr.at_
  have b1 : e.toList.isEmpty = false := by simp [he]
  have b2 : (e.toList == [0]) = true := by simp [he]
  have b3 : r.toList.isEmpty = false := by simp [hz]
  have b4 : (r.toList == [0]) = true := by simp [hz]
  have HV : Hid _ := mB_z (s := s.toList) (k := k.toList) (r := r.toList) he
  clear he hz
  clear hk hr
  go_enter Trym.func9, Trym.ntmps9
  go_wp2
  all_goals
    go_ret
    refine ⟨ret_bool ?_, rfl⟩
    rw [HV.out]
    first | done | (go_light; clear q1 q2 HV; simp_all [ble, bl, toList_zero])

set_option maxHeartbeats 400000 in
theorem model_ze (s e : ByteArray) (a1 : Option Addr) (l1 c1 : Nat) (a2 : Option Addr) (l2 c2 : Nat) (k r : ByteArray) (w : World) (hk : Str w a1 l1 c1 k) (hr : Str w a2 l2 c2 r) (hs : s.size ≤ 1048576) (hkk : k.size ≤ 1048576) (he : e.toList = [0]) (hz : r.toList ≠ []) (hz0 : r.toList ≠ [0]) :
    Calls Trym.prog 9 #[.string s, .string e, .slice a1 l1 c1, .slice a2 l2 c2] w fun e' w' => e' = .returned (.bool (modelB s.toList e.toList k.toList r.toList)) ∧ w' = w := by
  have q1 := hk.at_
  have q2 := hr.at_
  have b1 : e.toList.isEmpty = false := by simp [he]
  have b2 : (e.toList == [0]) = true := by simp [he]
  have b3 : r.toList.isEmpty = false := by simpa using hz
  have b4 : (r.toList == [0]) = false := by simpa using hz0
  have HV : Hid _ := mB_z (s := s.toList) (k := k.toList) (r := r.toList) he
  clear he hz hz0
  clear hk hr
  go_enter Trym.func9, Trym.ntmps9
  go_wp2
  all_goals
    go_ret
    refine ⟨ret_bool ?_, rfl⟩
    rw [HV.out]
    first | done | (go_light; clear q1 q2 HV; simp_all [ble, bl, toList_zero])

set_option maxHeartbeats 400000 in
theorem model_en (s e : ByteArray) (a1 : Option Addr) (l1 c1 : Nat) (a2 : Option Addr) (l2 c2 : Nat) (k r : ByteArray) (w : World) (hk : Str w a1 l1 c1 k) (hr : Str w a2 l2 c2 r) (hs : s.size ≤ 1048576) (hkk : k.size ≤ 1048576) (he : e.toList ≠ []) (h0 : e.toList ≠ [0]) (hz : r.toList = []) :
    Calls Trym.prog 9 #[.string s, .string e, .slice a1 l1 c1, .slice a2 l2 c2] w fun e' w' => e' = .returned (.bool (modelB s.toList e.toList k.toList r.toList)) ∧ w' = w := by
  have q1 := hk.at_
  have q2 := hr.at_
  have b1 : e.toList.isEmpty = false := by simpa using he
  have b2 : (e.toList == [0]) = false := by simpa using h0
  have b3 : r.toList.isEmpty = true := by simp [hz]
  have b4 : (r.toList == [0]) = false := by rw [hz]; rfl
  have HV : Hid _ := mB_en (s := s.toList) (k := k.toList) he h0 hz
  clear he h0 hz
  clear hk hr
  go_enter Trym.func9, Trym.ntmps9
  go_wp2
  all_goals
    go_ret
    refine ⟨ret_bool ?_, rfl⟩
    rw [HV.out]
    first | done | (go_light; clear q1 q2 HV; simp_all [ble, bl, toList_zero])

set_option maxHeartbeats 400000 in
theorem model_ez (s e : ByteArray) (a1 : Option Addr) (l1 c1 : Nat) (a2 : Option Addr) (l2 c2 : Nat) (k r : ByteArray) (w : World) (hk : Str w a1 l1 c1 k) (hr : Str w a2 l2 c2 r) (hs : s.size ≤ 1048576) (hkk : k.size ≤ 1048576) (he : e.toList ≠ []) (h0 : e.toList ≠ [0]) (hz : r.toList = [0]) :
    Calls Trym.prog 9 #[.string s, .string e, .slice a1 l1 c1, .slice a2 l2 c2] w fun e' w' => e' = .returned (.bool (modelB s.toList e.toList k.toList r.toList)) ∧ w' = w := by
  have q1 := hk.at_
  have q2 := hr.at_
  have b1 : e.toList.isEmpty = false := by simpa using he
  have b2 : (e.toList == [0]) = false := by simpa using h0
  have b3 : r.toList.isEmpty = false := by simp [hz]
  have b4 : (r.toList == [0]) = true := by simp [hz]
  have HV : Hid _ := mB_ez (s := s.toList) (k := k.toList) he h0 hz
  clear he h0 hz
  clear hk hr
  go_enter Trym.func9, Trym.ntmps9
  go_wp2
  all_goals
    go_ret
    refine ⟨ret_bool ?_, rfl⟩
    rw [HV.out]
    first | done | (go_light; clear q1 q2 HV; simp_all [ble, bl, toList_zero])

set_option maxHeartbeats 400000 in
theorem model_ee (s e : ByteArray) (a1 : Option Addr) (l1 c1 : Nat) (a2 : Option Addr) (l2 c2 : Nat) (k r : ByteArray) (w : World) (hk : Str w a1 l1 c1 k) (hr : Str w a2 l2 c2 r) (hs : s.size ≤ 1048576) (hkk : k.size ≤ 1048576) (he : e.toList ≠ []) (h0 : e.toList ≠ [0]) (hz : r.toList ≠ []) (hz0 : r.toList ≠ [0]) :
    Calls Trym.prog 9 #[.string s, .string e, .slice a1 l1 c1, .slice a2 l2 c2] w fun e' w' => e' = .returned (.bool (modelB s.toList e.toList k.toList r.toList)) ∧ w' = w := by
  have q1 := hk.at_
  have q2 := hr.at_
  have b1 : e.toList.isEmpty = false := by simpa using he
  have b2 : (e.toList == [0]) = false := by simpa using h0
  have b3 : r.toList.isEmpty = false := by simpa using hz
  have b4 : (r.toList == [0]) = false := by simpa using hz0
  have HV : Hid _ := mB_ee (s := s.toList) (k := k.toList) he h0 hz hz0
  clear he h0 hz hz0
  clear hk hr
  go_enter Trym.func9, Trym.ntmps9
  go_wp2
  all_goals
    go_ret
    refine ⟨ret_bool ?_, rfl⟩
    rw [HV.out]
    first | done | (go_light; clear q1 q2 HV; simp_all [ble, bl, toList_zero])

theorem model9 (s e : ByteArray) (a1 : Option Addr) (l1 c1 : Nat) (a2 : Option Addr) (l2 c2 : Nat) (k r : ByteArray) (w : World) (hk : Str w a1 l1 c1 k) (hr : Str w a2 l2 c2 r) (hs : s.size ≤ 1048576) (hkk : k.size ≤ 1048576) :
    Calls Trym.prog 9 #[.string s, .string e, .slice a1 l1 c1, .slice a2 l2 c2] w fun e' w' => e' = .returned (.bool (modelB s.toList e.toList k.toList r.toList)) ∧ w' = w := by
  by_cases he : e.toList = []
  · by_cases hz : r.toList = []
    · exact model_nn s e a1 l1 c1 a2 l2 c2 k r w hk hr hs hkk he hz
    · by_cases hz0 : r.toList = [0]
      · exact model_nz s e a1 l1 c1 a2 l2 c2 k r w hk hr hs hkk he hz0
      · exact model_ne s e a1 l1 c1 a2 l2 c2 k r w hk hr hs hkk he hz hz0
  · by_cases h0 : e.toList = [0]
    · by_cases hz : r.toList = []
      · exact model_zn s e a1 l1 c1 a2 l2 c2 k r w hk hr hs hkk h0 hz
      · by_cases hz0 : r.toList = [0]
        · exact model_zz s e a1 l1 c1 a2 l2 c2 k r w hk hr hs hkk h0 hz0
        · exact model_ze s e a1 l1 c1 a2 l2 c2 k r w hk hr hs hkk h0 hz hz0
    · by_cases hz : r.toList = []
      · exact model_en s e a1 l1 c1 a2 l2 c2 k r w hk hr hs hkk he h0 hz
      · by_cases hz0 : r.toList = [0]
        · exact model_ez s e a1 l1 c1 a2 l2 c2 k r w hk hr hs hkk he h0 hz0
        · exact model_ee s e a1 l1 c1 a2 l2 c2 k r w hk hr hs hkk he h0 hz hz0
end Go.Proofs.Qxb6602267aMods
