import Derived.Deep.LoopGhost
import Derived.Test.Qxb6602309aModsMemD
import Derived.Test.Qxb6602309aModsWalkD
import Derived.Test.Qxb6602309aModsWalkE
namespace Go.Proofs.Qxb6602309aMods
open Go.RowKit
set_option linter.unusedVariables false

/-- What zzFindModel answers. -/
def Model (w : World) (R : Option (List Wd × List (List Wd))) (e : Ending) (w' : World) : Prop :=
  Below w.heap.size w w' ∧
  ((R = none ∧ e = .returned (.tuple #[.slice none 0 0, .slice none 0 0, .bool true])) ∨
   ∃ d c dv cv, R = some (d, c) ∧ e = .returned (.tuple #[dv, cv, .bool false]) ∧ OwnW w' 39 dv d ∧ OwnC w w' 32 cv c ∧ (d = [] → dv = .slice none 0 0) ∧ (c = [] → cv = .slice none 0 0))

theorem stop_semi {acc : List Wd} {y : Wd} (h : (y.v.toList == [59]) = true) : stop acc y = true := by simp [stop, isSemi, h]
theorem stop_no {acc : List Wd} {y : Wd} (h : (y.v.toList == [59]) = false) (h2 : (y.v.toList == [43]) = false) : stop acc y = false := by simp [stop, isSemi, isPlus, h, h2]
theorem stop_first {xs : List Wd} {i : Nat} {y : Wd} (h : (y.v.toList == [59]) = false) : stop (seg xs i (i + 1)) y = false := by simp [stop, isSemi, h, seg_start, lastBr_nil]
theorem stop_last {xs : List Wd} {i k : Nat} {y z : Wd} (h : (y.v.toList == [59]) = false) (h2 : (y.v.toList == [43]) = true) (hik : i + 1 < k) (hz : xs[k - 1]? = some z) : stop (seg xs i k) y = (z.v.toList == [123, 125]) := by
  simp [stop, isSemi, isPlus, h, h2, lastBr_seg hik hz, isBr]

theorem cell_new1 (w : World) (t : TypeId) (v : Value) : (w.alloc (.cells #[v] t (0, 0))).cell? ⟨w.heap.size, 0, none⟩ = some v :=
  cell_of_row _ _ 0 _ t _ (heap_alloc_new w (.cells #[v] t (0, 0)))

theorem cell_seg {w : World} {t : TypeId} {pa : Option Addr} {pc : Nat} {xs : List Wd} {i k : Nat} (hik : i + 1 ≤ k) (hk : k ≤ xs.length) :
    (w.alloc (.cells #[.slice pa (k - (i + 1)) pc] t (0, 0))).cell? ⟨w.heap.size, 0, none⟩ = some (.slice pa (seg xs i k).length pc) := by
  rw [seg_len hik hk]; exact cell_new1 w t _

theorem wds_same {w : World} {b off : Nat} {xs : List Wd} {k : Nat} {y : Wd} (h : Wds w (some ⟨b, off, none⟩) xs) (hy : xs[k]? = some y) : At w b (off + k * 5) y := by
  obtain ⟨b', off', e, hat⟩ := h k y hy
  simp only [Option.some.injEq, Addr.mk.injEq, and_true] at e
  obtain ⟨rfl, rfl⟩ := e
  exact hat

set_option maxRecDepth 100000 in
set_option maxHeartbeats 4000000 in
theorem model10 (a : Option Addr) (cap : Nat) (xs : List Wd) (w : World) (h : Wds w a xs) (hl : xs.length ≤ 1048576) (hcap : xs.length ≤ cap) (hcm : cap ≤ 9223372036854775807) (R : Option (List Wd × List (List Wd))) (hR : find xs [] [] = R) :
    Calls Trym.prog 10 #[.slice a xs.length cap] w fun e w' => Model w R e w' := by
  have HR : Hid _ := hR
  clear hR
  go_enter Trym.func10, Trym.ntmps10
  go_wp2
  go_loopw [5, 6, 7] (fun dv cv i wr => ∃ (k : Nat) (d : List Wd) (c : List (List Wd)), k ≤ xs.length ∧ i = .int .i64 k ∧ d.length ≤ k ∧ c.length ≤ k ∧ find (xs.drop k) d c = R ∧ OwnW wr 39 dv d ∧ OwnC w wr 32 cv c ∧ Below w.heap.size w wr ∧ (∀ g, dv.ownBlock = some g → w.heap.size ≤ g) ∧ (∀ g, cv.ownBlock = some g → w.heap.size ≤ g) ∧ Aside ((d = [] → dv = .slice none 0 0) ∧ (c = [] → cv = .slice none 0 0))) (fun _ _ i _ => xs.length - (intOf i).toNat)
  case atStart => exact ⟨0, [], [], by omega, rfl, by simp, by simp, HR.out, ownW_nil _ _, ownC_nil _ _ _, Below.refl _ _, fun g hg => (by cases hg), fun g hg => (by cases hg), ⟨fun _ => rfl, fun _ => rfl⟩⟩
  case round =>
    clear HR
    obtain ⟨i, d, c, hi, rfl, hdl, hcl, hf, hd, hc, hbl, hvd, hvc, hnn⟩ := hrel
    have HF : Hid _ := hf
    clear hf
    by_cases hlt : i < xs.length
    · obtain ⟨b, off, rfl, hat0⟩ := h i xs[i] (List.getElem?_eq_getElem hlt)
      have hat := hat0.keep (hbl.block b hat0.lt)
      have hx : xs[i]? = some xs[i] := List.getElem?_eq_getElem hlt
      generalize xs[i] = x at hat hx
      have HX : Hid _ := hx
      clear hx
      have q0 := hat.c0
      have hsz := hbl.size
      cases hdel : (x.v.toList == [45, 100, 101, 108, 101, 116, 101]) with
      | true =>
        have q1 := hat.c1
        have q2 := hat.c2
        have q3 := hat.c3
        have q4 := hat.c4
        go_wp2_with (at_builtin; refine wpList_app5 _ rfl _ _ 32 rfl 39 Trym.underlying32 info39 _ d rfl (hd.alloc _) (by omega) wr.heap.size 1 x rfl (at_new _ _ _) ?_)
        intro w' g cap2 ho hg hor
        have hbl3 : Below w.heap.size w w' := below_grown (hbl.alloc hsz _) hg (by simp; omega) hvd
        have hc3 : OwnC w w' 32 u6 c := ownC_kept_w (hd.alloc _) (hc.alloc _) (by decide) hg
        clear q0 q1 q2 q3 q4
        go_wp2
        go_roundw
        case rel => exact ⟨i + 1, d ++ [x], c, hlt, by go_num, by simp; omega, by omega, step_del HF.out HX.out hdel, ho, hc3, hbl3, new_block hvd hor (by omega) rfl, hvc, ⟨fun h => by simp at h, hnn.out.2⟩⟩
        case measure => simp [intOf]; omega
      | false =>
        go_wp2_with fail
        refine (isExec18 x.v _).mono ?_
        rintro e w1 ⟨rfl, rfl⟩
        cases hex : isExec x.v with
        | false =>
          go_wp2_with fail
          go_roundw
          case rel => exact ⟨i + 1, d, c, hlt, by go_num, by omega, by omega, step_skip HF.out HX.out hdel hex, hd, hc, hbl, hvd, hvc, hnn⟩
          case measure => simp [intOf]; omega
        | true =>
          clear q0
          go_wp2_with fail
          go_loop [9, 10] (fun en kk => ∃ k : Nat, i + 1 ≤ k ∧ k ≤ xs.length ∧ en = .int .i64 (-1) ∧ kk = .int .i64 k ∧ Seek xs i k) (fun _ kk => xs.length - (intOf kk).toNat)
          case atStart => exact ⟨i + 1, Nat.le_refl _, hlt, rfl, by go_num, seek_start xs i⟩
          case round =>
            obtain ⟨k, hik, hk, rfl, rfl, hseek⟩ := hrel
            have HS : Hid _ := hseek
            clear hseek
            by_cases hkl : k < xs.length
            · have hy : xs[k]? = some xs[k] := List.getElem?_eq_getElem hkl
              have haty := (wds_same h hy).keep (hbl.block b hat0.lt)
              generalize xs[k] = y at hy haty
              have HY : Hid _ := hy
              clear hy
              have q0 := haty.c0
              clear haty
              have hc1 : ¬ cap = i + 1 := by omega
              cases hsemi : (y.v.toList == [59]) with
              | true =>
                have HST : Hid _ := stop_semi (acc := seg xs i k) hsemi
                go_wp2_with (at_builtin; refine wpList_appC w _ rfl _ _ 22 rfl 32 Trym.underlying22 info32 _ c rfl (hc.alloc _) (by omega) w1.heap.size 1 (seg xs i k) _ _ rfl (cell_seg hik hk) (wds_seg h i k) ?_)
                intro w' g cap2 ho hg hor
                have hbl3 : Below w.heap.size w w' := below_grown (hbl.alloc hsz _) hg (by simp; omega) hvc
                have hd3 : OwnW w' 39 u5 d := ownW_kept_c (hd.alloc _) (hc.alloc _) (by decide) hg
                clear q0
                go_wp2
                go_roundw
                case rel => exact ⟨k + 1, d, c ++ [seg xs i k], hkl, by go_num, by omega, by simp; omega, step_exec HF.out HX.out hdel hex HS.out HY.out HST.out, hd3, ho, hbl3, hvd, new_block hvc hor (by omega) rfl, ⟨hnn.out.1, fun h => by simp at h⟩⟩
                case measure => simp [intOf]; omega
              | false =>
                cases hplus : (y.v.toList == [43]) with
                | false =>
                  have HST : Hid _ := stop_no (acc := seg xs i k) hsemi hplus
                  go_wp2_with fail
                  go_round
                  case rel => exact ⟨k + 1, by omega, hkl, rfl, by go_num, seek_go HS.out hik HY.out HST.out⟩
                  case measure => simp [intOf]; omega
                | true =>
                  by_cases hfirst : k = i + 1
                  · have HST : Hid (stop (seg xs i k) y = false) := by
                      have := stop_first (xs := xs) (i := i) hsemi
                      rw [← hfirst] at this
                      exact this
                    have hf1 : k ≤ i + 1 := by omega
                    clear hfirst
                    go_wp2_with fail
                    go_round
                    case rel => exact ⟨k + 1, by omega, hkl, rfl, by go_num, seek_go HS.out hik HY.out HST.out⟩
                    case measure => simp [intOf]; omega
                  · have hf2 : i + 1 < k := by omega
                    clear hfirst
                    have hz : xs[k - 1]? = some xs[k - 1] := List.getElem?_eq_getElem (by omega)
                    have hatz := (wds_same h hz).keep (hbl.block b hat0.lt)
                    generalize xs[k - 1] = z at hz hatz
                    have q5 := hatz.c0
                    have hst := stop_last hsemi hplus hf2 hz
                    clear hz hatz
                    cases hbr : (z.v.toList == [123, 125]) with
                    | false =>
                      rw [hbr] at hst
                      have HST : Hid _ := hst
                      clear hst
                      go_wp2_with fail
                      go_round
                      case rel => exact ⟨k + 1, by omega, hkl, rfl, by go_num, seek_go HS.out hik HY.out HST.out⟩
                      case measure => simp [intOf]; omega
                    | true =>
                      rw [hbr] at hst
                      have HST : Hid _ := hst
                      clear hst
                      go_wp2_with (at_builtin; refine wpList_appC w _ rfl _ _ 22 rfl 32 Trym.underlying22 info32 _ c rfl (hc.alloc _) (by omega) w1.heap.size 1 (seg xs i k) _ _ rfl (cell_seg hik hk) (wds_seg h i k) ?_)
                      intro w' g cap2 ho hg hor
                      have hbl3 : Below w.heap.size w w' := below_grown (hbl.alloc hsz _) hg (by simp; omega) hvc
                      have hd3 : OwnW w' 39 u5 d := ownW_kept_c (hd.alloc _) (hc.alloc _) (by decide) hg
                      clear q0
                      go_wp2
                      go_roundw
                      case rel => exact ⟨k + 1, d, c ++ [seg xs i k], hkl, by go_num, by omega, by simp; omega, step_exec HF.out HX.out hdel hex HS.out HY.out HST.out, hd3, ho, hbl3, hvd, new_block hvc hor (by omega) rfl, ⟨hnn.out.1, fun h => by simp at h⟩⟩
                      case measure => simp [intOf]; omega
            · obtain rfl : k = xs.length := by omega
              have HRn : Hid _ := step_none HF.out HX.out hdel hex HS.out
              go_wp2_with fail
              go_ret3
              exact ⟨hbl, .inl ⟨HRn.out, rfl⟩⟩
    · obtain rfl : i = xs.length := by omega
      go_wp2_with fail
      go_ret3
      exact ⟨hbl, .inr ⟨d, c, _, _, step_end HF.out, rfl, hd, hc, hnn.out.1, hnn.out.2⟩⟩
end Go.Proofs.Qxb6602309aMods
