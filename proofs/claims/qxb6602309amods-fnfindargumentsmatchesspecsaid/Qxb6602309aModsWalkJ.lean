import Derived.Test.Qxb6602309aModsMemF
import Derived.Test.Qxb6602309aModsWalkI
namespace Go.Proofs.Qxb6602309aMods
open Go.RowKit
set_option linter.unusedVariables false

theorem info42 : (Trym.prog.info? 42).map (fun i => (i.zero, i.size, i.bytes)) = some (some (.slice none 0 0), 1, 24) := by kernel_rfl

/-- What findArguments answers. -/
def Found (w : World) (B X Q : Nat) (R : Option (List Wd × List (List Wd))) (e : Ending) (w' : World) : Prop :=
  Fr w w' X Q ∧
  ((R = none ∧ e = .returned (.tuple #[.slice none 0 0, .slice none 0 0])) ∨
   ∃ d c dv cv, R = some (d, c) ∧ e = .returned (.tuple #[dv, cv]) ∧ OwnW w' 45 dv d ∧ CmdRow w' B dv cv c ∧ (d = [] → dv = .slice none 0 0) ∧ (c = [] → cv = .slice none 0 0) ∧ d.length ≤ 1048576 ∧ c.length ≤ 1048576)

theorem fstep_end {l d : List Wd} {c : List (List Wd)} {R : Option (List Wd × List (List Wd))} (h : find l d c = R) (hl : l = []) : R = some (d, c) := by rw [← h, hl]; rfl
theorem fstep_del {l m d : List Wd} {x : Wd} {c : List (List Wd)} {R : Option (List Wd × List (List Wd))} (h : find l d c = R) (hl : l = x :: m) (hd : isDel x = true) : find m (d ++ [x]) c = R := by rw [← h, hl, find_del hd]
theorem fstep_skip {l m d : List Wd} {x : Wd} {c : List (List Wd)} {R : Option (List Wd × List (List Wd))} (h : find l d c = R) (hl : l = x :: m) (hd : isDel x = false) (he : isExec x.v = false) : find m d c = R := by rw [← h, hl, find_skip hd he]
theorem fstep_exec {l m d cmd r : List Wd} {x : Wd} {c : List (List Wd)} {R : Option (List Wd × List (List Wd))} (h : find l d c = R) (hl : l = x :: m) (hd : isDel x = false) (he : isExec x.v = true) (hx : exec1 [] m = some (cmd, r)) : find r d (c ++ [cmd]) = R := by rw [← h, hl, find_exec hd he hx]
theorem fstep_none {l m d : List Wd} {x : Wd} {c : List (List Wd)} {R : Option (List Wd × List (List Wd))} (h : find l d c = R) (hl : l = x :: m) (hd : isDel x = false) (he : isExec x.v = true) (hx : exec1 [] m = none) : R = none := by rw [← h, hl, find_none hd he hx]

theorem isExec_no {v : ByteArray} (h : isExec v = false) : (v.toList == [45,101,120,101,99]) = false ∧ (v.toList == [45,101,120,101,99,100,105,114]) = false ∧ (v.toList == [45,111,107]) = false ∧ (v.toList == [45,111,107,100,105,114]) = false := by
  simpa [isExec, and_assoc] using h
theorem isExec_yes {v : ByteArray} (h : isExec v = true) : (v.toList == [45,101,120,101,99]) = true ∨ ((v.toList == [45,101,120,101,99]) = false ∧ (v.toList == [45,101,120,101,99,100,105,114]) = true) ∨ ((v.toList == [45,101,120,101,99]) = false ∧ (v.toList == [45,101,120,101,99,100,105,114]) = false ∧ (v.toList == [45,111,107]) = true) ∨ ((v.toList == [45,101,120,101,99]) = false ∧ (v.toList == [45,101,120,101,99,100,105,114]) = false ∧ (v.toList == [45,111,107]) = false ∧ (v.toList == [45,111,107,100,105,114]) = true) := by
  simp only [isExec] at h
  revert h
  generalize (v.toList == [45,101,120,101,99]) = a, (v.toList == [45,101,120,101,99,100,105,114]) = b, (v.toList == [45,111,107]) = c, (v.toList == [45,111,107,100,105,114]) = d
  revert a b c d
  decide

theorem own_blk {w : World} {e s n : Nat} {v : Value} {xs : List Value} (h : w.ownsRow 0 e s v n xs) (g : Nat) (hg : v.ownBlock = some g) : g < w.heap.size := by
  rcases h.2 with ⟨rfl, _⟩ | ⟨g, cap, cur, rfl, _, hgg, _⟩
  · cases hg
  · simp only [Value.ownBlock, Option.some.injEq] at hg
    subst hg
    exact (Array.getElem?_eq_some_iff.1 hgg).1

theorem CmdRow.own {w : World} {B : Nat} {dv cv : Value} {c : List (List Wd)} (h : CmdRow w B dv cv c) : w.ownsRow 0 42 1 cv c.length h.choose := h.choose_spec.1

theorem cmd_new {w w3 : World} {B K pc : Nat} {dv cv : Value} {pa : Option Addr} {cmd : List Wd} (hB : B ≤ w.heap.size) (hK : w.heap.size ≤ K) (hcell : w3.cell? ⟨K, 0, none⟩ = some (.slice pa cmd.length pc)) (hwd : Wds w3 pa cmd)
    (hpa : ∀ x : Addr, pa = some x → w.heap.size ≤ x.block) (hpl : ∀ x : Addr, pa = some x → x.block < K) (hcmd : cmd.length ≤ 1048576) (h1 : ∀ g, dv.ownBlock = some g → g < w.heap.size) (h2 : ∀ g, cv.ownBlock = some g → g < w.heap.size) (o : Obj) :
    CmdAt (w3.alloc o) B dv.ownBlock cv.ownBlock K cmd := by
  have hk := World.block_lt_of_cell? _ _ hcell
  have hk' : K < w3.heap.size := hk
  refine ⟨by omega, by simp; omega, fun e => by have := h1 K e.symm; omega, fun e => by have := h2 K e.symm; omega, hcmd, pa, pc, ?_, hwd.keep (fun x hx => Below.heap_alloc _ _ _ (by have := hpl x hx; omega)), fun x hx => ?_⟩
  · rw [World.cell?_alloc_lt w3 o ⟨K, 0, none⟩ hk]; exact hcell
  · have a := hpa x hx
    have b := hpl x hx
    exact ⟨by omega, by simp; omega, fun e => by have := h1 _ e.symm; omega, fun e => by have := h2 _ e.symm; omega⟩

set_option maxRecDepth 100000 in
set_option maxHeartbeats 4000000 in
theorem find16 (qa : Option Addr) (Q N : Nat) (ps : List (List Wd)) (w : World) (h : Que (w.alloc (.cells #[.slice qa ps.length N] 42 (0, 0))) (w.heap.size + 1) w.heap.size Q N ps) (R : Option (List Wd × List (List Wd))) (hR : find (flat ps) [] [] = R) :
    Calls Trym.prog 16 #[.slice qa ps.length N] w fun e w' => Found w (w.heap.size + 1) w.heap.size Q R e w' := by
  have HR : Hid _ := hR
  clear hR
  have hQ := h.hQ
  go_enter Trym.func16, Trym.ntmps16
  go_wp2_with fail
  go_loopg [2, 3] (flat ps).length (fun k dv cv wr => ∃ d c qs, (flat qs).length ≤ k ∧ Aside (find (flat qs) d c = R) ∧ OwnW wr 45 dv d ∧ CmdRow wr (w.heap.size + 1) dv cv c ∧ Que wr (w.heap.size + 1) w.heap.size Q N qs ∧ Fr (w.alloc (.cells #[.slice qa ps.length N] 42 (0, 0))) wr w.heap.size Q ∧ Aside ((∀ g, dv.ownBlock = some g → w.heap.size + 1 ≤ g) ∧ (∀ g, cv.ownBlock = some g → w.heap.size + 1 ≤ g) ∧ (d = [] → dv = .slice none 0 0) ∧ (c = [] → cv = .slice none 0 0)) ∧ d.length + (flat qs).length ≤ 1048576 ∧ c.length + (flat qs).length ≤ 1048576)
  case atStart => exact ⟨[], [], ps, Nat.le_refl _, HR.out, ownW_nil _ _, cmdRow_nil _ _ _, h, Fr.refl _ _ _, ⟨fun g hg => (by cases hg), fun g hg => (by cases hg), fun _ => rfl, fun _ => rfl⟩, by have := h.tle; simp; omega, by have := h.tle; simp; omega⟩
  case round =>
    clear HR
    obtain ⟨d, c, qs, hk, hfi, hd, hc, hq, hfr, hside, hdl, hcl⟩ := hrel
    have hsz0 : w.heap.size + 1 ≤ wr.heap.size := by have := hfr.size; simpa using this
    go_wp2_with fail
    refine (pop19 (w.heap.size + 1) w.heap.size Q N qs _ hq hsz0).mono ?_
    rintro e w1 ⟨hfr1, hcase⟩
    have hfr2 := hfr.trans hfr1
    have hsz : w.heap.size + 1 ≤ w1.heap.size := Nat.le_trans hsz0 hfr1.size
    have hd1 : OwnW w1 45 u2 d := hd.fr hfr1 (fun g hg => by have := hside.out.1 g hg; omega)
    have hc1 : CmdRow w1 (w.heap.size + 1) u2 u3 c := hc.fr hfr1 (by omega) hQ hside.out.2.1
    clear hd hc hfr1 hq
    rcases hcase with ⟨hnil, rfl⟩ | ⟨x, qs2, hfl, rfl, hq2⟩
    · have HN : Hid _ := fstep_end hfi.out hnil
      clear hnil
      go_wp2_with fail
      go_ret2
      exact ⟨(((Fr.refl w w.heap.size Q).alloc _).trans hfr2).alloc _, .inr ⟨d, c, _, _, HN.out, rfl, hd1.alloc _, hc1.alloc _, hside.out.2.2.1, hside.out.2.2.2, by omega, by omega⟩⟩
    · have HF : Hid _ := hfl
      have hdl2 : d.length + 1 + (flat qs2).length ≤ 1048576 := by rw [hfl] at hdl; simp at hdl; omega
      have hcl2 : c.length + 1 + (flat qs2).length ≤ 1048576 := by rw [hfl] at hcl; simp at hcl; omega
      have hk2 : (flat qs2).length + 1 ≤ gk := by rw [hfl] at hk; simpa using hk
      clear hfl hdl hcl hk
      cases hdel : (x.v.toList == [45, 100, 101, 108, 101, 116, 101]) with
      | true =>
        have HS : Hid _ := fstep_del hfi.out HF.out hdel
        have hn5 : d.length ≤ 1048576 := by omega
        go_wp2_with (at_builtin; refine wpList_app5 _ rfl _ _ 43 rfl 45 Trym.underlying43 info45 _ d rfl ((hd1.alloc _).alloc _) hn5 (w1.heap.size + 1) 1 x rfl (at_new2 _ _ _ _) ?_)
        intro w' g' cap2 ho hgr hor
        have hq3 := ((hq2.alloc hsz _).alloc (by simp; omega) _).grown (by simp; omega) hgr hside.out.1
        have hfr3 := ((hfr2.alloc _).alloc _).grown hgr (fun g hg => by have := hside.out.1 g hg; simpa using this)
        have hc3 := ((hc1.alloc _).alloc _).appD (n := d.length + 1) (cap := cap2) ((hd1.alloc _).alloc _) hgr (by simpa using hor)
        go_wp2
        go_roundg (flat qs2).length
        case measure => omega
        case rel => exact ⟨d ++ [x], c, qs2, Nat.le_refl _, HS.out, ho, hc3, hq3, hfr3, ⟨new_block hside.out.1 hor (by omega) rfl, hside.out.2.1, fun h => by simp at h, hside.out.2.2.2⟩, by simp; omega, by omega⟩
      | false =>
        cases he : isExec x.v with
        | false =>
          have HS : Hid _ := fstep_skip hfi.out HF.out hdel he
          obtain ⟨e1, e2, e3, e4⟩ := isExec_no he
          clear he
          go_wp2_with fail
          go_roundg (flat qs2).length
          case measure => omega
          case rel => exact ⟨d, c, qs2, Nat.le_refl _, HS.out, hd1.alloc _, hc1.alloc _, hq2.alloc hsz _, hfr2.alloc _, hside, by omega, by omega⟩
        | true =>
          have HE : Hid _ := he
          have hex := isExec_yes he
          clear he
          rcases hex with e1 | ⟨e1, e2⟩ | ⟨e1, e2, e3⟩ | ⟨e1, e2, e3, e4⟩
          all_goals
            go_wp2_with fail
            refine (exec20 (w.heap.size + 1) w.heap.size Q N qs2 _ (hq2.alloc hsz _) (by simp; omega)).mono ?_
            rintro e w3 ⟨hfr4, hcase⟩
            rcases hcase with ⟨hnone, rfl⟩ | ⟨cmd, qs3, K, pa, pc, hsome, rfl, hq3, hK, hcell, hwd, hpa, hcmd⟩
            · have HN : Hid _ := fstep_none hfi.out HF.out hdel HE.out hnone
              clear hnone
              go_wp2_with fail
              go_ret2
              exact ⟨((Fr.refl w w.heap.size Q).alloc _).trans ((hfr2.alloc _).trans hfr4), .inl ⟨HN.out, rfl⟩⟩
            · have HS : Hid _ := fstep_exec hfi.out HF.out hdel HE.out hsome
              have hlen3 : (flat qs3).length + 1 ≤ (flat qs2).length := exec1_len _ _ _ _ hsome
              clear hsome
              have hb1 := own_blk hd1
              have hb2 := own_blk hc1.own
              have hK1 : w1.heap.size ≤ K := by simp at hK; omega
              have hpa1 : ∀ y : Addr, pa = some y → w1.heap.size ≤ y.block := fun y hy => by have := (hpa y hy).1; simp at this; omega
              have hat := fun o => cmd_new (dv := u2) (cv := u3) hsz hK1 hcell hwd hpa1 (fun y hy => (hpa y hy).2) hcmd hb1 hb2 o
              have hd2 : OwnW w3 45 u2 d := OwnW.fr (hd1.alloc _) hfr4 (fun g hg => by have := hside.out.1 g hg; omega)
              have hc2 : CmdRow w3 (w.heap.size + 1) u2 u3 c := (hc1.alloc _).fr hfr4 (by omega) hQ hside.out.2.1
              have hn5 : c.length ≤ 1048576 := by omega
              have hfr5 := (hfr2.alloc _).trans hfr4
              have hsz5 : w.heap.size + 1 ≤ w3.heap.size := by have := hfr4.size; simp at this; omega
              clear hcell hwd hpa hK hpa1
              go_wp2_with (at_builtin; refine wpList_appQ _ (w.heap.size + 1) u2 rfl _ _ rfl info42 _ c rfl (hc2.alloc _) hn5 w3.heap.size 1 K cmd rfl (cell_new1 _ _ _) (hat _) ?_)
              intro w' g' cap2 ho hgr hor
              have hd3 := ownW_kept_q (hd2.alloc _) (hc2.alloc _) hgr
              have hq4 := (hq3.alloc hsz5 _).grown (by simp; omega) hgr hside.out.2.1
              have hfr6 := (hfr5.alloc _).grown hgr (fun g hg => by have := hside.out.2.1 g hg; simpa using this)
              go_wp2
              go_roundg (flat qs3).length
              case measure => omega
              case rel => exact ⟨d, c ++ [cmd], qs3, Nat.le_refl _, HS.out, hd3, ho, hq4, hfr6, ⟨hside.out.1, new_block hside.out.2.1 hor (by omega) rfl, hside.out.2.2.1, fun h => by simp at h⟩, by omega, by simp; omega⟩
end Go.Proofs.Qxb6602309aMods
