import Derived.Test.Qxb6602309aModsMem
namespace Go.Proofs.Qxb6602309aMods
open Go.RowKit
set_option linter.unusedVariables false

/-- How many words. -/
def tot : List (List Wd) → Nat
  | [] => 0
  | p :: ps => p.length + tot ps
theorem tot_append : ∀ (a b : List (List Wd)), tot (a ++ b) = tot a + tot b
  | [], b => by simp [tot]
  | p :: a, b => by simp only [List.cons_append, tot, tot_append a b]; omega
theorem tot_take (ps : List (List Wd)) (k : Nat) (h : k < ps.length) : tot (ps.take (k + 1)) = tot (ps.take k) + ps[k].length := by
  rw [List.take_succ_eq_append_getElem h, tot_append]; simp [tot]
theorem flat_len : ∀ ps : List (List Wd), (flat ps).length = tot ps
  | [] => rfl
  | p :: ps => by
    have h := flat_len ps
    simp only [flat] at h
    simp only [flat, List.reverse_cons, List.flatten_append, List.length_append, tot]
    rw [h]; simp; omega

/-- What zzFindBytes answers. -/
def FB (ps : List (List Wd)) (e : Ending) : Prop := ∃ n : Int, e = .returned (.int .i64 n) ∧ (n ≤ 1048576 → ps.length ≤ 1048576 ∧ (flat ps).length ≤ 1048576)

theorem fb_big (ps : List (List Wd)) (n : Int) (h : 1048576 < n) : FB ps (.returned (.int .i64 n)) := ⟨n, rfl, fun h2 => by omega⟩

theorem wrap_small (a : Int) (h0 : 0 ≤ a) (h1 : a ≤ 4611686018427387904) : IntKind.i64.wrap a = a := by
  rw [IntKind.wrap_i64]; omega

set_option maxRecDepth 100000 in
set_option maxHeartbeats 2000000 in
theorem findBytes6 (a : Option Addr) (cap : Nat) (ps : List (List Wd)) (w : World) (h : Pts w a ps) (hl : ps.length ≤ 9223372036854775807) :
    Calls Trym.prog 6 #[.slice a ps.length cap] w fun e w' => FB ps e ∧ ∃ n, w' = w.drewN n := by
  by_cases c0 : 43690 < ps.length
  · go_enter Trym.func6, Trym.ntmps6
    go_wp2
    go_ret
    exact ⟨fb_big ps _ (by decide), 0, rfl⟩
  go_enter Trym.func6, Trym.ntmps6
  go_wp2
  go_loopw [3, 4] (fun z i wr => ∃ n k q : Nat, n ≤ 1048576 ∧ k ≤ ps.length ∧ z = .int .i64 n ∧ i = .int .i64 k ∧ wr = w.drewN q ∧ tot (ps.take k) ≤ n) (fun _ i _ => ps.length - (intOf i).toNat)
  case atStart => exact ⟨24 * ps.length, 0, 0, by omega, by omega, by go_num, rfl, rfl, by simp [tot]⟩
  case round =>
    obtain ⟨n, k, q, hn, hk, rfl, rfl, rfl, ht⟩ := hrel
    by_cases hlt : k < ps.length
    · obtain ⟨b, off, pa, pc, rfl, hc, hw⟩ := h k ps[k] (List.getElem?_eq_getElem hlt)
      have htk := tot_take ps k hlt
      generalize ps[k] = p at hc hw htk
      have HT : Hid _ := htk
      clear htk
      by_cases d0 : 18724 < p.length
      · go_wp2
        go_ret
        exact ⟨fb_big ps _ (by decide), q, rfl⟩
      by_cases d1 : 1048576 < n + 56 * p.length
      · go_wp2
        go_ret
        exact ⟨fb_big ps _ (by omega), q, rfl⟩
      go_wp2
      go_loopw [3, 5] (fun z i wr => ∃ n' k' q' : Nat, n + 56 * p.length ≤ n' ∧ n' ≤ 1048576 ∧ k' ≤ p.length ∧ z = .int .i64 n' ∧ i = .int .i64 k' ∧ wr = w.drewN q') (fun _ i _ => p.length - (intOf i).toNat)
      case atStart => exact ⟨n + 56 * p.length, 0, q, by omega, by omega, by omega, by go_num, rfl, rfl⟩
      case round =>
        obtain ⟨m, j, q2, hm0, hm, hj, rfl, rfl, rfl⟩ := hrel
        by_cases hjl : j < p.length
        · obtain ⟨b2, off2, rfl, hat⟩ := hw j p[j] (List.getElem?_eq_getElem hjl)
          generalize p[j] = x at hat
          have q0 := hat.c0
          have q3 := hat.c3
          by_cases e0 : 1048576 < x.v.size
          · go_wp2
            go_ret
            exact ⟨fb_big ps _ (by decide), q2, rfl⟩
          by_cases e1 : 1048576 < x.t.size
          · go_wp2
            go_ret
            exact ⟨fb_big ps _ (by decide), q2, rfl⟩
          have f1 : (k : Int) < (ps.length : Int) := by omega
          have f2 : (j : Int) < (p.length : Int) := by omega
          have f3 := wrap_small ((x.v.size : Int) + (x.t.size : Int)) (by omega) (by omega)
          have f4 := wrap_small ((m : Int) + ((x.v.size : Int) + (x.t.size : Int))) (by omega) (by omega)
          go_wp2
          go_quiet (fail)
          go_wp2
          · go_ret
            exact ⟨fb_big ps _ (by omega), q2 + nq, rfl⟩
          · go_roundw
            case rel => exact ⟨m + (x.v.size + x.t.size), j + 1, q2 + nq, by omega, by omega, by omega, by go_num, by go_num, rfl⟩
            case measure => simp [intOf]; omega
        · go_wp2
          go_roundw
          case rel => exact ⟨m, k + 1, q2, hm, by omega, rfl, by go_num, rfl, by rw [HT.out]; omega⟩
          case measure => simp [intOf]; omega
    · go_wp2
      go_ret
      refine ⟨⟨n, rfl, fun _ => ⟨by omega, ?_⟩⟩, q, rfl⟩
      rw [flat_len]
      rw [List.take_of_length_le (by omega)] at ht
      omega
end Go.Proofs.Qxb6602309aMods
