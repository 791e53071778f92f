import Derived.Test.Qxb6602309aModsMemC
import Derived.Test.Qxb6602309aModsWalkB
namespace Go.Proofs.Qxb6602309aMods
open Go.RowKit
set_option linter.unusedVariables false

theorem below_grown {B : Nat} {a w w' : World} {v : Value} (h : Below B a w) (hg : w.grownBy w' v.ownBlock) (hB : B ≤ w.heap.size) (hv : ∀ g, v.ownBlock = some g → B ≤ g) : Below B a w' := h.grown hg hB hv

/-- What zzFlatten hands back. -/
def Flat (w : World) (xs : List Wd) (e : Ending) (w' : World) : Prop :=
  ∃ (a : Option Addr) (cap : Nat), e = .returned (.slice a xs.length cap) ∧ Wds w' a xs ∧ Below w.heap.size w w' ∧ xs.length ≤ cap ∧ cap ≤ 9223372036854775807

theorem flat_of {w w' : World} {e : TypeId} {v : Value} {xs : List Wd} (h : OwnW w' e v xs) (hb : Below w.heap.size w w') : Flat w xs (.returned v) w' := by
  rcases h.shape with ⟨rfl, rfl⟩ | ⟨g, cap, rfl, hw, _⟩
  · exact ⟨none, 0, rfl, wds_nil _ _, hb, by simp, by omega⟩
  · rcases h.2 with ⟨h1, _⟩ | ⟨g2, cap2, cur, h1, _, _, hnc, hcm, _⟩
    · cases h1
    · injection h1 with _ _ h2
      subst h2
      exact ⟨_, cap, rfl, hw, hb, hnc, by unfold maxLen at hcm; omega⟩

theorem flat_drop (ps : List (List Wd)) (m : Nat) (p : List Wd) (h : ps[m]? = some p) : flat (ps.drop m) = flat (ps.drop (m + 1)) ++ p := by
  have hm : m < ps.length := by
    rcases Nat.lt_or_ge m ps.length with h1 | h1
    · exact h1
    · rw [List.getElem?_eq_none h1] at h; cases h
  rw [List.drop_eq_getElem_cons hm]
  rw [List.getElem?_eq_getElem hm] at h
  simp only [Option.some.injEq] at h
  rw [h]
  simp [flat]

theorem flat_drop_len (ps : List (List Wd)) (m : Nat) : (flat (ps.drop m)).length ≤ (flat ps).length := by
  have h2 : flat (ps.take m ++ ps.drop m) = flat (ps.drop m) ++ flat (ps.take m) := by
    unfold flat
    rw [List.reverse_append, List.flatten_append]
  rw [List.take_append_drop] at h2
  rw [h2, List.length_append]; omega

theorem take_snoc {p : List Wd} {j : Nat} {x : Wd} (h : p[j]? = some x) : p.take (j + 1) = p.take j ++ [x] := by
  have hm : j < p.length := by
    rcases Nat.lt_or_ge j p.length with h1 | h1
    · exact h1
    · rw [List.getElem?_eq_none h1] at h; cases h
  rw [List.take_succ_eq_append_getElem hm]
  rw [List.getElem?_eq_getElem hm] at h
  simp only [Option.some.injEq] at h
  rw [h]

theorem own_next {A p ys : List Wd} {j : Nat} {x : Wd} (hys : ys = A ++ p.take j) (hx : p.take (j + 1) = p.take j ++ [x]) : ys ++ [x] = A ++ p.take (j + 1) := by
  rw [hys, hx, List.append_assoc]

theorem new_block {B : Nat} {u v : Value} {g n : Nat} (hv : ∀ g, u.ownBlock = some g → B ≤ g) (h : some g = u.ownBlock ∨ g = n) (hn : B ≤ n) (he : v.ownBlock = some g) : ∀ g, v.ownBlock = some g → B ≤ g := by
  intro g' hg'
  rw [he] at hg'
  simp only [Option.some.injEq] at hg'
  subst hg'
  rcases h with h | h
  · exact hv _ h.symm
  · omega

set_option maxRecDepth 100000 in
set_option maxHeartbeats 2000000 in
theorem flatten11 (a : Option Addr) (cap : Nat) (ps : List (List Wd)) (w : World) (h : Pts w a ps) (hl : ps.length ≤ 1048576) (hf : (flat ps).length ≤ 1048576) :
    Calls Trym.prog 11 #[.slice a ps.length cap] w fun e w' => Flat w (flat ps) e w' := by
  go_enter Trym.func11, Trym.ntmps11
  go_wp2
  go_loopw [3, 4] (fun v i wr => ∃ k : Nat, k ≤ ps.length ∧ i = .int .i64 ((k : Int) - 1) ∧ OwnW wr 39 v (flat (ps.drop k)) ∧ Below w.heap.size w wr ∧ ∀ g, v.ownBlock = some g → w.heap.size ≤ g) (fun _ i _ => (intOf i + 1).toNat)
  case atStart => exact ⟨ps.length, Nat.le_refl _, rfl, by rw [List.drop_length]; exact ownW_nil _ _, Below.refl _ _, fun g hg => by cases hg⟩
  case round =>
    obtain ⟨k, hk, rfl, hown, hbl, hv⟩ := hrel
    cases k with
    | zero =>
      go_wp2
      go_ret
      exact flat_of (e := 39) (by simpa using hown) hbl
    | succ m =>
      have hlt : m < ps.length := by omega
      rw [show (((m + 1 : Nat)) : Int) - 1 = (m : Int) from by omega]
      obtain ⟨b, off, pa, pc, rfl, hc, hw⟩ := h m ps[m] (List.getElem?_eq_getElem hlt)
      have hb := block_lt_of_cell hc
      have hpk : ps[m]? = some ps[m] := List.getElem?_eq_getElem hlt
      generalize ps[m] = p at hc hw hpk
      have HP : Hid _ := flat_drop ps m p hpk
      have hpl : p.length ≤ 1048576 := by
        have h1 := flat_drop_len ps m
        rw [HP.out, List.length_append] at h1
        omega
      clear hpk
      go_wp2
      obtain ⟨wo, rfl⟩ : ∃ wo : World, wo = wr := ⟨_, rfl⟩
      go_loopw [3, 5] (fun v i wr => ∃ j : Nat, j ≤ p.length ∧ i = .int .i64 j ∧ OwnW wr 39 v (flat (ps.drop (m + 1)) ++ p.take j) ∧ Below w.heap.size w wr ∧ ∀ g, v.ownBlock = some g → w.heap.size ≤ g) (fun _ i _ => p.length - (intOf i).toNat)
      case atStart => exact ⟨0, by omega, rfl, by simpa using hown, hbl, hv⟩
      case round =>
        obtain ⟨j, hj, rfl, hown2, hbl2, hv2⟩ := hrel
        have hc2 := (hbl2.cell (p := ⟨b, off + m, none⟩) hb).trans hc
        by_cases hjl : j < p.length
        · obtain ⟨b2, off2, rfl, hat0⟩ := hw j p[j] (List.getElem?_eq_getElem hjl)
          have hat := hat0.keep (hbl2.block b2 hat0.lt)
          have hx : p[j]? = some p[j] := List.getElem?_eq_getElem hjl
          generalize p[j] = x at hat hx
          have HX : Hid _ := take_snoc hx
          have q0 := hat.c0
          have q1 := hat.c1
          have q2 := hat.c2
          have q3 := hat.c3
          have q4 := hat.c4
          have hylen : (flat (ps.drop (m + 1)) ++ p.take j).length ≤ 1048576 := by
            have h1 := flat_drop_len ps m
            rw [HP.out, List.length_append] at h1
            rw [List.length_append, List.length_take]
            omega
          obtain ⟨ys, hys⟩ : ∃ ys, ys = flat (ps.drop (m + 1)) ++ p.take j := ⟨_, rfl⟩
          rw [← hys] at hown2 hylen
          have HY : Hid _ := own_next hys HX.out
          clear hx hys
          have hsz := hbl2.size
          go_wp2_with (at_builtin; refine wpList_app5 _ rfl _ _ 32 rfl 39 Trym.underlying32 info39 _ ys rfl (hown2.alloc _) hylen wr.heap.size 1 x rfl (at_new _ _ _) ?_)
          intro w' g cap2 ho hg hor
          have hbl3 : Below w.heap.size w w' := below_grown (hbl2.alloc hsz _) hg (by simp; omega) hv2
          clear q0 q1 q2 q3 q4
          go_wp2
          go_roundw
          case rel => exact ⟨j + 1, hjl, by go_num, by rw [← HY.out]; exact ho, hbl3, new_block hv2 hor (by omega) rfl⟩
          case measure => simp [intOf]; omega
        · go_wp2
          go_roundw
          case rel => exact ⟨m, by omega, by go_num, by rw [HP.out]; rw [List.take_of_length_le (by omega)] at hown2; exact hown2, hbl2, hv2⟩
          case measure => simp [intOf]
end Go.Proofs.Qxb6602309aMods
