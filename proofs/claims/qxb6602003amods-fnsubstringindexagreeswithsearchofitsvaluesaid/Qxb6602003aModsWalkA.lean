import Derived.Test.Qxb6602003aModsProg
import Derived.Test.Qxb6602003aModsPlain
import Derived.WalkKit
import Derived.WalkLawsBesides
import Derived.WalkSpells
import Derived.Deep.QuietTactic
import Derived.BigQuiet
namespace Go.Proofs.Qxb6602003aMods
open Go.RowKit

/-- The ending hands back some bool. -/
def RetBool (e : Ending) : Prop := ∃ b, e = .returned (.bool b)

theorem bytes18 (a0 a1 : ByteArray) (w : World) (h0 : a0.size ≤ maxLen) (h1 : a1.size ≤ maxLen) :
    Calls Trym.prog 18 #[.string a0, .string a1] w fun e w' => RetBool e ∧ w' = w := by
  unfold maxLen at h0 h1
  by_cases c0 : 1048576 < (a0.size : Int)
  · go_enter Trym.func18, Trym.ntmps18
    go_wp2
    go_ret
    exact ⟨⟨_, rfl⟩, rfl⟩
  · by_cases c1 : 1048576 < (a1.size : Int)
    · go_enter Trym.func18, Trym.ntmps18
      go_wp2
      go_ret
      exact ⟨⟨_, rfl⟩, rfl⟩
    · go_enter Trym.func18, Trym.ntmps18
      go_wp2
      all_goals
        go_ret
        exact ⟨⟨_, rfl⟩, rfl⟩

/-- What a search comes to. -/
def Searched (v s : ByteArray) (e : Ending) : Prop := ∃ b, e = .returned (.bool b) ∧ (b = true ↔ ∃ p, MatchAt v s p)

theorem data_get (v : ByteArray) (k : Nat) (h : k < v.size) : v.data[k]? = some v[k] := by
  rw [Array.getElem?_eq_getElem (by simpa using h)]; rfl

theorem eq_of_toNat {a b : UInt8} (h : ((a.toNat : Int) != (b.toNat : Int)) = false) : a = b := by
  simp at h; exact UInt8.toNat_inj.mp (by omega)
theorem ne_of_toNat {a b : UInt8} (h : ((a.toNat : Int) != (b.toNat : Int)) = true) : a ≠ b := by
  intro e; subst e; simp at h

theorem match_step {v s : ByteArray} {k i : Nat} (hlt : k + s.size ≤ v.size) (hi : i < s.size) (hy : ∀ j, j < i → v.data[k + j]? = s.data[j]?)
    (h : v[k + i]'(by omega) = s[i]) : ∀ j, j < i + 1 → v.data[k + j]? = s.data[j]? := by
  intro j hj
  by_cases e : j = i
  · subst e; rw [data_get v (k + j) (by omega), data_get s j hi, h]
  · exact hy j (by omega)

theorem match_no {v s : ByteArray} {k i : Nat} (hlt : k + s.size ≤ v.size) (hi : i < s.size) (h : v[k + i]'(by omega) ≠ s[i]) : ¬ MatchAt v s k := by
  intro hm
  have := hm.2 i hi
  rw [data_get v (k + i) (by omega), data_get s i hi] at this
  exact h (by simpa using this)

theorem wrap_small (a : Int) (h0 : 0 ≤ a) (h1 : a ≤ 4611686018427387904) : IntKind.i64.wrap a = a := by
  rw [IntKind.wrap_i64]; omega

set_option maxHeartbeats 400000 in
theorem search19 (v s : ByteArray) (w : World) (h0 : v.size ≤ 1000) (h1 : s.size ≤ 524288) :
    Calls Trym.prog 19 #[.string v, .string s] w fun e w' => Searched v s e ∧ ∃ n, w' = w.drewN n := by
  go_enter Trym.func19, Trym.ntmps19
  go_wp2
  go_loopw [5] (fun p wr => ∃ k n : Nat, k ≤ v.size + 1 ∧ p = .int .i64 k ∧ wr = w.drewN n ∧ (∀ q, q < k → ¬ MatchAt v s q)) (fun p _ => v.size + 1 - (intOf p).toNat)
  case atStart => exact ⟨0, 0, by omega, rfl, rfl, fun q hq => by omega⟩
  case round =>
    obtain ⟨k, n, hk, rfl, rfl, hno⟩ := hrel
    by_cases hlt : k + s.size ≤ v.size
    · go_wp2
      go_loopw [6, 7] (fun t i wr => ∃ j m : Nat, j ≤ s.size ∧ t = .bool true ∧ i = .int .i64 j ∧ wr = w.drewN m ∧ (∀ q, q < j → v.data[k + q]? = s.data[q]?)) (fun _ i _ => s.size - (intOf i).toNat)
      case atStart => exact ⟨0, n, by omega, rfl, rfl, rfl, fun q hq => by omega⟩
      case round =>
        obtain ⟨j, m, hj, rfl, rfl, rfl, hy⟩ := hrel
        by_cases hji : j < s.size
        · have hb1 : (k : Int) + j < v.size := by omega
          have hb2 : (j : Int) < s.size := by omega
          have hb0 : (0 : Int) ≤ (k : Int) + j := by omega
          have hb3 := wrap_small ((k : Int) + j) (by omega) (by omega)
          go_wp2
          go_quiet (fail)
          go_wp2
          · go_roundw
            case rel => exact ⟨k + 1, m + nq, by omega, by go_num, rfl, fun q hq => by
              by_cases e : q = k
              · subst e; exact match_no hlt hji (ne_of_toNat (by assumption))
              · exact hno q (by omega)⟩
            case measure => simp [intOf]; omega
          · go_roundw
            case rel => exact ⟨j + 1, m + nq, by omega, rfl, by go_num, rfl, match_step hlt hji hy (eq_of_toNat (by assumption))⟩
            case measure => simp [intOf]; omega
        · go_wp2
          go_ret
          refine ⟨⟨true, rfl, ?_⟩, m, rfl⟩
          simp
          exact ⟨k, hlt, fun i hi => hy i (by omega)⟩
    · go_wp2
      go_ret
      refine ⟨⟨false, rfl, ?_⟩, n, rfl⟩
      simp
      intro x hx
      by_cases hxk : x < k
      · exact hno x hxk hx
      · have := hx.1; omega
end Go.Proofs.Qxb6602003aMods
