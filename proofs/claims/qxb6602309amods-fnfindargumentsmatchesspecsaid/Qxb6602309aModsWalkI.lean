import Derived.Test.Qxb6602309aModsWalkH
import Derived.Test.Qxb6602309aModsWalkF
namespace Go.Proofs.Qxb6602309aMods
open Go.RowKit
set_option linter.unusedVariables false

/-- What executed answers. -/
def Execd (w : World) (B X Q N : Nat) (ps : List (List Wd)) (e : Ending) (w' : World) : Prop :=
  Fr w w' X Q ∧
  ((exec1 [] (flat ps) = none ∧ e = .returned (.tuple #[.slice none 0 0, .bool false])) ∨
   ∃ cmd qs K pa pc, exec1 [] (flat ps) = some (cmd, flat qs) ∧ e = .returned (.tuple #[.slice (some ⟨K, 0, none⟩) 1 1, .bool true]) ∧ Que w' B X Q N qs ∧ w.heap.size ≤ K ∧
     w'.cell? ⟨K, 0, none⟩ = some (.slice pa cmd.length pc) ∧ Wds w' pa cmd ∧ (∀ x : Addr, pa = some x → w.heap.size ≤ x.block ∧ x.block < K) ∧ cmd.length ≤ 1048576)

theorem OwnW.fr {w w' : World} {X Q : Nat} {e : TypeId} {v : Value} {xs : List Wd} (h : OwnW w e v xs) (hf : Fr w w' X Q) (h1 : ∀ g, v.ownBlock = some g → g ≠ X ∧ g ≠ Q) : OwnW w' e v xs := by
  refine ⟨h.1, ?_⟩
  rcases h.2 with hn | ⟨g, cap, cur, rfl, hb, hgg, rest⟩
  · exact .inl hn
  · exact .inr ⟨g, cap, cur, rfl, hb, (hf.block g (Array.getElem?_eq_some_iff.1 hgg).1 (h1 g rfl).1 (h1 g rfl).2).trans hgg, rest⟩

theorem stop_semi' {acc : List Wd} {y : Wd} (h : (y.v.toList == [59]) = true) : stop acc y = true := stop_semi h
theorem stop_nil {y : Wd} (h : (y.v.toList == [59]) = false) : stop [] y = false := by simp [stop, isSemi, h, lastBr_nil]
theorem stop_br {acc : List Wd} {y z : Wd} (h : (y.v.toList == [59]) = false) (h2 : (y.v.toList == [43]) = true) (hz : acc[acc.length - 1]? = some z) : stop acc y = (z.v.toList == [123, 125]) := by
  have : lastBr acc = isBr z := by
    unfold lastBr
    rw [List.getLast?_eq_getElem?, hz]
  simp [stop, isSemi, isPlus, h, h2, this, isBr]

theorem ret_none {acc l : List Wd} {R : Option (List Wd × List Wd)} (h : R = exec1 acc l) (hl : l = []) : R = none := by rw [h, hl]; rfl
theorem ret_some {acc l m : List Wd} {x : Wd} {R : Option (List Wd × List Wd)} (h : R = exec1 acc l) (hl : l = x :: m) (hs : stop acc x = true) : R = some (acc, m) := by rw [h, hl, exec1_stop hs]
theorem ret_go {acc l m : List Wd} {x : Wd} {R : Option (List Wd × List Wd)} (h : R = exec1 acc l) (hl : l = x :: m) (hs : stop acc x = false) : R = exec1 (acc ++ [x]) m := by rw [h, hl, exec1_go hs]

theorem exec_done {w w1 : World} {B X Q N : Nat} {ps qs : List (List Wd)} {cmd : List Wd} {pa : Option Addr} {pc : Nat} (hfr : Fr w w1 X Q) (hq : Que w1 B X Q N qs) (hB : B ≤ w1.heap.size)
    (hx : exec1 [] (flat ps) = some (cmd, flat qs)) (hw : Wds w1 pa cmd) (hpa : ∀ x : Addr, pa = some x → w.heap.size ≤ x.block ∧ x.block < w1.heap.size) (hl : cmd.length ≤ 1048576) (o : Obj) (n : Nat) (hn : n = cmd.length) :
    Execd w B X Q N ps (.returned (.tuple #[.slice (some ⟨w1.heap.size + 1, 0, none⟩) 1 1, .bool true])) ((w1.alloc o).alloc (.cells #[.slice pa n pc] 43 (0, 0))) := by
  subst hn
  have hsz := hfr.size
  refine ⟨(hfr.alloc _).alloc _, .inr ⟨cmd, qs, w1.heap.size + 1, pa, pc, hx, rfl, (hq.alloc hB _).alloc (by simp; omega) _, by omega, ?_, ?_, fun x hx => ⟨(hpa x hx).1, by have := (hpa x hx).2; omega⟩, hl⟩⟩
  · have := cell_new1 (w1.alloc o) 43 (.slice pa cmd.length pc)
    rw [World.size_alloc] at this
    exact this
  · exact hw.keep (fun x hx => by
      have h1 := (hpa x hx).2
      rw [Below.heap_alloc _ _ _ (by simp; omega), Below.heap_alloc _ _ _ h1])

theorem hor_fix {g g' n k cap : Nat} (h : g' = g ∨ g' = n) : some g' = (Value.slice (some ⟨g, 0, none⟩) k cap).ownBlock ∨ g' = n := by
  rcases h with h | h
  · left; rw [h]; rfl
  · right; exact h

theorem at_new2 (w : World) (o : Obj) (t : TypeId) (x : Wd) : At ((w.alloc o).alloc (.cells #[.string x.v, .int .i64 x.a, .bool x.b, .string x.t, .bool x.o] t (0, 0))) (w.heap.size + 1) 0 x := by
  have := at_new (w.alloc o) t x
  simpa using this

set_option maxRecDepth 100000 in
set_option maxHeartbeats 4000000 in
theorem exec20 (B X Q N : Nat) (ps : List (List Wd)) (w : World) (h : Que w B X Q N ps) (hB : B ≤ w.heap.size) :
    Calls Trym.prog 20 #[.pointer (some ⟨X, 0, none⟩)] w fun e w' => Execd w B X Q N ps e w' := by
  have hXR : X < w.heap.size := Nat.lt_of_lt_of_le h.hX hB
  have hQR : Q < w.heap.size := Nat.lt_of_lt_of_le h.hQ hB
  go_enter Trym.func20, Trym.ntmps20
  go_wp2_with fail
  go_loopg [4] (flat ps).length (fun k v wr => ∃ acc qs, (flat qs).length ≤ k ∧ Aside (exec1 [] (flat ps) = exec1 acc (flat qs)) ∧ OwnW wr 45 v acc ∧ Que wr B X Q N qs ∧ Fr w wr X Q ∧ (∀ g, v.ownBlock = some g → w.heap.size ≤ g) ∧ acc.length + (flat qs).length ≤ 1048576 ∧ Aside (acc = [] → v = .slice none 0 0))
  case atStart => exact ⟨[], ps, Nat.le_refl _, rfl, ownW_nil _ _, h, Fr.refl _ _ _, fun g hg => (by cases hg), by have := h.tle; simp; omega, fun _ => rfl⟩
  case round =>
    obtain ⟨acc, qs, hk, hex, hown, hq, hfr, hv, hlen, hnn⟩ := hrel
    go_wp2_with fail
    refine (pop19 B X Q N qs _ hq (Nat.le_trans hB hfr.size)).mono ?_
    rintro e w1 ⟨hfr1, hcase⟩
    have hfr2 := hfr.trans hfr1
    have hown1 : OwnW w1 45 u4 acc := hown.fr hfr1 (fun g hg => by have := hv g hg; omega)
    have hsz := hfr2.size
    rcases hcase with ⟨hnil, rfl⟩ | ⟨x, qs2, hfl, rfl, hq2⟩
    · have HN : Hid _ := ret_none hex.out hnil
      clear hnil
      go_wp2_with fail
      go_ret2
      exact ⟨hfr2.alloc _, .inl ⟨HN.out, rfl⟩⟩
    · have HF : Hid _ := hfl
      have hlen2 : acc.length + 1 + (flat qs2).length ≤ 1048576 := by rw [hfl] at hlen; simp at hlen; omega
      have hk2 : (flat qs2).length + 1 ≤ gk := by rw [hfl] at hk; simpa using hk
      clear hfl hlen hk hown hq hfr1
      rcases hown1.shape with ⟨rfl, rfl⟩ | ⟨g, cap, rfl, hwd, hg, _⟩
      · cases hsemi : (x.v.toList == [59]) with
        | true =>
          have HS : Hid _ := ret_some hex.out HF.out (stop_semi (acc := []) hsemi)
          go_wp2_with fail
          go_ret2
          exact exec_done hfr2 hq2 (Nat.le_trans hB hsz) HS.out (wds_nil _ _) (fun x hx => by cases hx) (by simp) _ 0 rfl
        | false =>
          have HS : Hid _ := ret_go hex.out HF.out (stop_nil hsemi)
          have hn5 : ([] : List Wd).length ≤ 1048576 := by simp
          cases hplus : (x.v.toList == [43])
          all_goals
            go_wp2_with (at_builtin; refine wpList_app5 _ rfl _ _ 43 rfl 45 Trym.underlying43 info45 _ [] rfl ((hown1.alloc _).alloc _) hn5 (w1.heap.size + 1) 1 x rfl (at_new2 _ _ _ _) ?_)
            intro w' g' cap2 ho hgr hor
            have hq3 := ((hq2.alloc (Nat.le_trans hB hsz) _).alloc (by simp; omega) _).grown (by simp; omega) hgr (fun g hg => Nat.le_trans hB (hv g hg))
            have hfr3 := ((hfr2.alloc _).alloc _).grown hgr hv
            go_wp2
            go_roundg (flat qs2).length
            case measure => omega
            case rel => exact ⟨[] ++ [x], qs2, Nat.le_refl _, HS.out, ho, hq3, hfr3, new_block hv hor (by omega) rfl, by simp at hlen2 ⊢; omega, fun h => by simp at h⟩
      · have hg1 : w.heap.size ≤ g := hv g rfl
        have hn5 : acc.length ≤ 1048576 := by omega
        cases hsemi : (x.v.toList == [59]) with
        | true =>
          have HS : Hid _ := ret_some hex.out HF.out (stop_semi (acc := acc) hsemi)
          go_wp2_with fail
          go_ret2
          exact exec_done hfr2 hq2 (Nat.le_trans hB hsz) HS.out hwd (fun x hx => by simp only [Option.some.injEq] at hx; subst hx; exact ⟨hg1, hg⟩) (by omega) _ _ rfl
        | false =>
          cases hplus : (x.v.toList == [43]) with
          | false =>
            have HS : Hid _ := ret_go hex.out HF.out (stop_no (acc := acc) hsemi hplus)
            go_wp2_with (at_builtin; refine wpList_app5 _ rfl _ _ 43 rfl 45 Trym.underlying43 info45 _ acc rfl ((hown1.alloc _).alloc _) hn5 (w1.heap.size + 1) 1 x rfl (at_new2 _ _ _ _) ?_)
            intro w' g' cap2 ho hgr hor
            have hq3 := ((hq2.alloc (Nat.le_trans hB hsz) _).alloc (by simp; omega) _).grown (by simp; omega) hgr (fun g hg => Nat.le_trans hB (hv g hg))
            have hfr3 := ((hfr2.alloc _).alloc _).grown hgr hv
            go_wp2
            go_roundg (flat qs2).length
            case measure => omega
            case rel => exact ⟨acc ++ [x], qs2, Nat.le_refl _, HS.out, ho, hq3, hfr3, new_block hv (hor_fix hor) (by omega) rfl, by simp at hlen2 ⊢; omega, fun h => by simp at h⟩
          | true =>
            by_cases hacc : acc.length = 0
            · have := hnn.out (List.eq_nil_of_length_eq_zero hacc)
              cases this
            · have hz : acc[acc.length - 1]? = some acc[acc.length - 1] := List.getElem?_eq_getElem (by omega)
              have hatz := wds_same hwd hz
              have hst := stop_br hsemi hplus hz
              generalize acc[acc.length - 1] = z at hz hatz hst
              have q5 : ∀ o, (w1.alloc o).cell? ⟨g, (acc.length - 1) * 5, none⟩ = some (.string z.v) := fun o => by
                rw [World.cell?_alloc_lt w1 o ⟨g, (acc.length - 1) * 5, none⟩ hg]
                have := hatz.c0
                rw [Nat.zero_add] at this
                exact this
              have hpos : 0 < acc.length := by omega
              clear hz hatz hacc
              cases hbr : (z.v.toList == [123, 125]) with
              | true =>
                rw [hbr] at hst
                have HS : Hid _ := ret_some hex.out HF.out hst
                clear hst
                go_wp2_with fail
                go_ret2
                exact exec_done hfr2 hq2 (Nat.le_trans hB hsz) HS.out hwd (fun x hx => by simp only [Option.some.injEq] at hx; subst hx; exact ⟨hg1, hg⟩) (by omega) _ _ rfl
              | false =>
                rw [hbr] at hst
                have HS : Hid _ := ret_go hex.out HF.out hst
                clear hst
                go_wp2_with (at_builtin; refine wpList_app5 _ rfl _ _ 43 rfl 45 Trym.underlying43 info45 _ acc rfl ((hown1.alloc _).alloc _) hn5 (w1.heap.size + 1) 1 x rfl (at_new2 _ _ _ _) ?_)
                intro w' g' cap2 ho hgr hor
                have hq3 := ((hq2.alloc (Nat.le_trans hB hsz) _).alloc (by simp; omega) _).grown (by simp; omega) hgr (fun g hg => Nat.le_trans hB (hv g hg))
                have hfr3 := ((hfr2.alloc _).alloc _).grown hgr hv
                go_wp2
                go_roundg (flat qs2).length
                case measure => omega
                case rel => exact ⟨acc ++ [x], qs2, Nat.le_refl _, HS.out, ho, hq3, hfr3, new_block hv (hor_fix hor) (by omega) rfl, by simp at hlen2 ⊢; omega, fun h => by simp at h⟩
end Go.Proofs.Qxb6602309aMods
