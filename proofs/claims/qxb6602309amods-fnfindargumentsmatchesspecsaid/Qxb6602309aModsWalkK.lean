import Derived.Test.Qxb6602309aModsMemG
namespace Go.Proofs.Qxb6602309aMods
open Go.RowKit
set_option linter.unusedVariables false

theorem info43 : (Trym.prog.info? 43).map (fun i => (i.zero, i.size, i.bytes)) = some (some (.slice none 0 0), 1, 24) := by kernel_rfl
theorem info30 : (Trym.prog.info? 30).map (fun i => (i.zero, i.size, i.bytes)) = some (some (.slice none 0 0), 1, 24) := by kernel_rfl

set_option maxRecDepth 100000 in
set_option maxHeartbeats 8000000 in
theorem zz8 (a : Option Addr) (cap : Nat) (ps : List (List Wd)) (w : World) (h : Pts w a ps) (hnil : a = none → ps = []) (hl : ps.length ≤ 1048576) (hp : ∀ p ∈ ps, p.length ≤ 1048576) (hfl : (flat ps).length ≤ 1048576)
    (R : Option (List Wd × List (List Wd))) (hR : find (flat ps) [] [] = R) :
    Calls Trym.prog 8 #[.slice a ps.length cap] w fun e w' => ZZ w R e w' := by
  have HR : Hid _ := hR
  clear hR
  have qn : ∀ (w : World) (a : Option Addr) (n c n' c' : Nat), (binOp .neq 30 (.slice a n c) (.slice none n' c')).run Trym.prog w = .ok (.bool (!a.isNone)) w := fun w a n c n' c' => run_neq_slice_nil_any w _ _ a n c n' c' Trym.underlying30
  have qm : ∀ (w : World) (a : Option Addr) (n c n' c' : Nat), (binOp .neq 26 (.slice a n c) (.slice none n' c')).run Trym.prog w = .ok (.bool (!a.isNone)) w := fun w a n c n' c' => run_neq_slice_nil_any w _ _ a n c n' c' Trym.underlying26
  have qo : ∀ (w : World) (a : Option Addr) (n c n' c' : Nat), (binOp .neq 47 (.slice a n c) (.slice none n' c')).run Trym.prog w = .ok (.bool (!a.isNone)) w := fun w a n c n' c' => run_neq_slice_nil_any w _ _ a n c n' c' Trym.underlying47
  have qp : ∀ (w : World) (a : Option Addr) (n c n' c' : Nat), (binOp .neq 42 (.slice a n c) (.slice none n' c')).run Trym.prog w = .ok (.bool (!a.isNone)) w := fun w a n c n' c' => run_neq_slice_nil_any w _ _ a n c n' c' Trym.underlying42
  cases a with
  | none =>
    obtain rfl := hnil rfl
    go_enter Trym.func8, Trym.ntmps8
    go_wp2_with fail
    refine (find16 none w.heap.size 0 [] _ (que_nil w) R HR.out).mono ?_
    rintro e w1 ⟨hfr, hcase⟩
    have hbl1 : Below w.heap.size w w1 := hfr.below (Below.refl _ _) (Nat.le_refl _) (Nat.le_refl _)
    clear hfr
    rcases hcase with ⟨hnone, rfl⟩ | ⟨d, c, dv, cv, hsome, rfl, hd, hc, hdn, hcn, hdl, hcl⟩
    · have HN : Hid _ := hnone
      clear hnone
      go_wp2_with fail
      refine (wordsOut17 none 0 [] _ (wds_nil _ _) (by simp)).mono ?_
      rintro e w2 ⟨a', rfl, hw2, hiff, hb2, _⟩
      obtain rfl := hiff.mpr rfl
      go_wp2_with fail
      go_ret2
      exact ⟨hbl1.trans (hb2.mono hbl1.size), .inl ⟨HN.out, rfl⟩⟩
    · have HS : Hid _ := hsome
      clear hsome
      have HD : Hid _ := hdn
      have HC : Hid _ := hcn
      clear hdn hcn
      rcases hc.shape with ⟨rfl, rfl⟩ | ⟨g, gcap, rfl, hgs, hcell⟩
      · rcases hd.shape with ⟨rfl, rfl⟩ | ⟨g2, cap2, rfl, hwd, hg2, _⟩
        · go_wp2_with fail
          refine (wordsOut17 none 0 [] _ (wds_nil _ _) (by simp)).mono ?_
          rintro e w2 ⟨a', rfl, hw2, hiff, hb2, _⟩
          obtain rfl := hiff.mpr rfl
          go_wp2_with fail
          go_ret2
          exact ⟨hbl1.trans (hb2.mono hbl1.size), .inr ⟨[], [], none, none, HS.out, rfl, hw2, cmds_nil _ _, fun _ => rfl, fun _ => rfl, hdl, hcl⟩⟩
        · go_wp2_with fail
          refine (wordsOut17 _ cap2 d _ hwd hdl).mono ?_
          rintro e w2 ⟨a', rfl, hw2, hiff, hb2, _⟩
          go_wp2_with fail
          go_ret2
          exact ⟨hbl1.trans (hb2.mono hbl1.size), .inr ⟨d, [], a', none, HS.out, rfl, hw2, cmds_nil _ _, fun h => absurd (HD.out h) (by simp), fun _ => rfl, hdl, hcl⟩⟩
      · have hcne : c ≠ [] := fun e => absurd (HC.out e) (by simp)
        have hmk := run_make_row' (P := Trym.prog) 27 30 (.slice none 0 0) 24 Trym.underlying27 info30 rfl .i64 .i64 c.length (by omega) (by omega)
        go_wp2_with fail
        clear hmk
        go_loopw [11] (fun i wr => ∃ k : Nat, k ≤ c.length ∧ i = .int .i64 k ∧ FillC wr w1.heap.size c.length k c ∧ Below w1.heap.size w1 wr) (fun i _ => c.length - (intOf i).toNat)
        case atStart => exact ⟨0, by omega, rfl, fillC_start c, (Below.refl _ _).alloc (Nat.le_refl _) _⟩
        case round =>
          obtain ⟨k, hk, rfl, hfc, hblc⟩ := hrel
          have hblw : Below w.heap.size w wr := hbl1.trans (hblc.mono hbl1.size)
          by_cases hlt : k < c.length
          · obtain ⟨K, pa, pc, c1, c2, c3, c4, c5⟩ := hcell k c[k] (List.getElem?_eq_getElem hlt)
            have hpk : c[k]? = some c[k] := List.getElem?_eq_getElem hlt
            generalize c[k] = p at c3 c4 c5 hpk
            have HP : Hid _ := hpk
            clear hpk
            have d1 := (hblc.cell (p := ⟨g, k, none⟩) hgs).trans c1
            have hmk2 : ∀ w : World, (Instr.makeSlice 30 (.int .i64 1) (.int .i64 1)).run Trym.prog w = .ok (.slice (some ⟨w.heap.size, 0, none⟩) 1 1) (w.alloc (.cells (madeCells #[.slice none 0 0] 1) 26 (0, 0))) := fun w => run_make_row' (P := Trym.prog) 30 26 (.slice none 0 0) 24 Trym.underlying30 info26 rfl .i64 .i64 1 (by omega) (by omega) w
            go_wp2_with fail
            clear hmk2
            obtain ⟨wo, rfl⟩ : ∃ wo : World, wo = wr := ⟨_, rfl⟩
            go_loopw [14] (fun i wr => ∃ j : Nat, j ≤ 1 ∧ i = .int .i64 j ∧ FillP wr wo.heap.size 1 j [p] ∧ Below wo.heap.size wo wr) (fun i _ => 1 - (intOf i).toNat)
            case atStart => exact ⟨0, by omega, rfl, fillP_start [p], (Below.refl _ _).alloc (Nat.le_refl _) _⟩
            case round =>
              obtain ⟨j, hj, rfl, hfp, hblp⟩ := hrel
              have hblo : Below w1.heap.size w1 wr := hblc.trans (hblp.mono hblc.size)
              by_cases hjl : j < 1
              · obtain rfl : j = 0 := by omega
                have d3 := (hblo.cell (p := ⟨K, 0, none⟩) c2).trans c3
                go_wp2_with fail
                refine (wordsOut17 pa pc p _ (c4.below hblo) c5).mono ?_
                rintro e w2 ⟨a', rfl, hw2, hiff, hb2, hnew⟩
                have hfp2 := hfp.below hb2
                have g1 := hfp2.zero 0 (Nat.le_refl _) (by omega)
                have g2 := hfp2.free 0
                have HX : Hid _ := hfp2.step (pc := p.length) (p := p) hjl rfl hw2 (fun x hx => Nat.lt_of_lt_of_le hfp.size (hnew x hx))
                clear d3
                go_wp2_with fail
                go_roundw
                case rel => exact ⟨1, by omega, by go_num, HX.out, (hblp.trans (hb2.mono hblp.size)).setCell (Nat.le_refl _) _⟩
                case measure => simp [intOf]
              · obtain rfl : j = 1 := by omega
                have hfc2 := hfc.below hblp
                obtain ⟨v, g1⟩ := hfc2.old k hlt
                have g2 := hfc2.free k
                obtain ⟨pa2, pc2, e1, e2, e3⟩ := hfp.cell 0 p (by omega) rfl
                have hos := hfc.size
                have HX : Hid _ := hfc2.step hlt HP.out hos e1 e2 (fun x hx => by have := e3 x hx; omega)
                clear e1
                go_wp2_with fail
                go_roundw
                case rel => exact ⟨k + 1, hlt, by go_num, HX.out, hblo.setCell (Nat.le_refl _) _⟩
                case measure => simp [intOf]; omega
          · obtain rfl : k = c.length := by omega
            have hcm := hfc.cmds
            rcases hd.shape with ⟨rfl, rfl⟩ | ⟨g2, cap2, rfl, hwd, hg2, _⟩
            · go_wp2_with fail
              refine (wordsOut17 none 0 [] _ (wds_nil _ _) (by simp)).mono ?_
              rintro e w2 ⟨a', rfl, hw2, hiff, hb2, _⟩
              obtain rfl := hiff.mpr rfl
              go_wp2_with fail
              go_ret2
              exact ⟨hblw.trans (hb2.mono hblw.size), .inr ⟨[], c, none, _, HS.out, rfl, hw2, hcm.below hb2, fun _ => rfl, fun h => absurd h hcne, hdl, hcl⟩⟩
            · go_wp2_with fail
              refine (wordsOut17 _ cap2 d _ (hwd.below hblc) hdl).mono ?_
              rintro e w2 ⟨a', rfl, hw2, hiff, hb2, _⟩
              go_wp2_with fail
              go_ret2
              exact ⟨hblw.trans (hb2.mono hblw.size), .inr ⟨d, c, a', _, HS.out, rfl, hw2, hcm.below hb2, fun h => absurd (HD.out h) (by simp), fun h => absurd h hcne, hdl, hcl⟩⟩
  | some x =>
    have hmk := run_make_row' (P := Trym.prog) 42 43 (.slice none 0 0) 24 Trym.underlying42 info43 rfl .i64 .i64 ps.length (by omega) (by omega)
    go_enter Trym.func8, Trym.ntmps8
    go_wp2_with fail
    clear hmk
    go_loopw [5] (fun i wr => ∃ k : Nat, k ≤ ps.length ∧ i = .int .i64 k ∧ FillQ wr w.heap.size ps.length k ps ∧ Below w.heap.size w wr) (fun i _ => ps.length - (intOf i).toNat)
    case atStart => exact ⟨0, by omega, rfl, fillQ_start ps, (Below.refl _ _).alloc (Nat.le_refl _) _⟩
    case round =>
      obtain ⟨k, hk, rfl, hf, hbl⟩ := hrel
      by_cases hlt : k < ps.length
      · obtain ⟨b, off, pa, pc, hx, hc, hw⟩ := h k ps[k] (List.getElem?_eq_getElem hlt)
        obtain rfl : x = ⟨b, off, none⟩ := by simpa using hx
        have hb := block_lt_of_cell hc
        have hc2 := (hbl.cell (p := ⟨b, off + k, none⟩) hb).trans hc
        have hpk : ps[k]? = some ps[k] := List.getElem?_eq_getElem hlt
        have hpl := hp ps[k] (List.getElem_mem hlt)
        generalize ps[k] = p at hc2 hw hpk hpl
        have HP : Hid _ := hpk
        clear hpk hc hx
        cases pa with
        | none =>
          obtain rfl := nil_of_none hw
          go_wp2_with fail
          go_roundw
          case rel => exact ⟨k + 1, hlt, by go_num, hf.skip hlt HP.out, hbl⟩
          case measure => simp [intOf]; omega
        | some y =>
          have hmk := run_make5 43 45 Trym.underlying43 info45 p.length hpl
          go_wp2_with fail
          obtain ⟨wo, rfl⟩ : ∃ wo : World, wo = wr := ⟨_, rfl⟩
          clear hmk
          go_loopw [7] (fun i wr => ∃ j : Nat, j ≤ p.length ∧ i = .int .i64 j ∧ Fill5 wr wo.heap.size p.length j p ∧ Below wo.heap.size wo wr) (fun i _ => p.length - (intOf i).toNat)
          case atStart => exact ⟨0, by omega, rfl, fill5_start p (mk5_size _), (Below.refl _ _).alloc (Nat.le_refl _) _⟩
          case round =>
            obtain ⟨j, hj, rfl, hf5, hbl5⟩ := hrel
            have hbl6 : Below w.heap.size w wr := hbl.trans (hbl5.mono hbl.size)
            have hc3 : wr.cell? ⟨b, off + k, none⟩ = some (.slice (some y) p.length pc) := (hbl5.cell (p := ⟨b, off + k, none⟩) (Nat.lt_of_lt_of_le hb hbl.size)).trans hc2
            by_cases hjl : j < p.length
            · obtain ⟨b2, off2, hy, hat0⟩ := hw j p[j] (List.getElem?_eq_getElem hjl)
              obtain rfl : y = ⟨b2, off2, none⟩ := by simpa using hy
              have hat := hat0.keep (hbl6.block b2 hat0.lt)
              have hx : p[j]? = some p[j] := List.getElem?_eq_getElem hjl
              generalize p[j] = x at hat hx
              have HXX : Hid _ := hx
              have q0 := hat.c0
              have q1 := hat.c1
              have q2 := hat.c2
              have q3 := hat.c3
              have q4 := hat.c4
              clear hx hy
              go_wp2_with fail
              refine (wordIn15 x _).mono ?_
              rintro e w1 ⟨rfl, hb1⟩
              have hf6 := hf5.below hb1
              have hbl7 : Below wo.heap.size wo w1 := hbl5.trans (hb1.mono hbl5.size)
              have HX : Hid _ := hf6.step hjl HXX.out
              clear q0 q1 q2 q3 q4 hat
              obtain ⟨v0, o0⟩ := hf6.old (j * 5) (by omega)
              obtain ⟨v1, o1⟩ := hf6.old (j * 5 + 1) (by omega)
              obtain ⟨v2, o2⟩ := hf6.old (j * 5 + 2) (by omega)
              obtain ⟨v3, o3⟩ := hf6.old (j * 5 + 3) (by omega)
              obtain ⟨v4, o4⟩ := hf6.old (j * 5 + 4) (by omega)
              have z0 := hf6.free (j * 5)
              have z1 := hf6.free (j * 5 + 1)
              have z2 := hf6.free (j * 5 + 2)
              have z3 := hf6.free (j * 5 + 3)
              have z4 := hf6.free (j * 5 + 4)
              go_wp2_with fail
              go_roundw
              case rel => exact ⟨j + 1, hjl, by go_num, HX.out, put5_below hbl7 (Nat.le_refl _)⟩
              case measure => simp [intOf]; omega
            · obtain rfl : j = p.length := by omega
              have hfP := hf.below hbl5
              have g1 := hfP.zero k (Nat.le_refl _) hlt
              have g2 := hfP.free k
              have HS : Hid _ := hfP.step (pc := p.length) hlt HP.out hf5.wds (Nat.le_refl _) (fun x hx => by simp only [Option.some.injEq] at hx; subst hx; exact ⟨hf.size, hf5.size⟩)
              go_wp2_with fail
              go_roundw
              case rel => exact ⟨k + 1, hlt, by go_num, HS.out, hbl6.setCell (Nat.le_refl _) _⟩
              case measure => simp [intOf]; omega
      · obtain rfl : k = ps.length := by omega
        go_wp2_with fail
        refine (find16 _ w.heap.size ps.length ps _ (hf.que hl hfl) R HR.out).mono ?_
        rintro e w1 ⟨hfr, hcase⟩
        have hbl1 : Below w.heap.size w w1 := hfr.below hbl (Nat.le_of_lt hf.size) (Nat.le_refl _)
        clear hfr
        rcases hcase with ⟨hnone, rfl⟩ | ⟨d, c, dv, cv, hsome, rfl, hd, hc, hdn, hcn, hdl, hcl⟩
        · have HN : Hid _ := hnone
          clear hnone
          go_wp2_with fail
          refine (wordsOut17 none 0 [] _ (wds_nil _ _) (by simp)).mono ?_
          rintro e w2 ⟨a', rfl, hw2, hiff, hb2, _⟩
          obtain rfl := hiff.mpr rfl
          go_wp2_with fail
          go_ret2
          exact ⟨hbl1.trans (hb2.mono hbl1.size), .inl ⟨HN.out, rfl⟩⟩
        · have HS : Hid _ := hsome
          clear hsome
          have HD : Hid _ := hdn
          have HC : Hid _ := hcn
          clear hdn hcn
          rcases hc.shape with ⟨rfl, rfl⟩ | ⟨g, gcap, rfl, hgs, hcell⟩
          · rcases hd.shape with ⟨rfl, rfl⟩ | ⟨g2, cap2, rfl, hwd, hg2, _⟩
            · go_wp2_with fail
              refine (wordsOut17 none 0 [] _ (wds_nil _ _) (by simp)).mono ?_
              rintro e w2 ⟨a', rfl, hw2, hiff, hb2, _⟩
              obtain rfl := hiff.mpr rfl
              go_wp2_with fail
              go_ret2
              exact ⟨hbl1.trans (hb2.mono hbl1.size), .inr ⟨[], [], none, none, HS.out, rfl, hw2, cmds_nil _ _, fun _ => rfl, fun _ => rfl, hdl, hcl⟩⟩
            · go_wp2_with fail
              refine (wordsOut17 _ cap2 d _ hwd hdl).mono ?_
              rintro e w2 ⟨a', rfl, hw2, hiff, hb2, _⟩
              go_wp2_with fail
              go_ret2
              exact ⟨hbl1.trans (hb2.mono hbl1.size), .inr ⟨d, [], a', none, HS.out, rfl, hw2, cmds_nil _ _, fun h => absurd (HD.out h) (by simp), fun _ => rfl, hdl, hcl⟩⟩
          · have hcne : c ≠ [] := fun e => absurd (HC.out e) (by simp)
            have hmk := run_make_row' (P := Trym.prog) 27 30 (.slice none 0 0) 24 Trym.underlying27 info30 rfl .i64 .i64 c.length (by omega) (by omega)
            go_wp2_with fail
            clear hmk
            go_loopw [11] (fun i wr => ∃ k : Nat, k ≤ c.length ∧ i = .int .i64 k ∧ FillC wr w1.heap.size c.length k c ∧ Below w1.heap.size w1 wr) (fun i _ => c.length - (intOf i).toNat)
            case atStart => exact ⟨0, by omega, rfl, fillC_start c, (Below.refl _ _).alloc (Nat.le_refl _) _⟩
            case round =>
              obtain ⟨k, hk, rfl, hfc, hblc⟩ := hrel
              have hblw : Below w.heap.size w wr := hbl1.trans (hblc.mono hbl1.size)
              by_cases hlt : k < c.length
              · obtain ⟨K, pa, pc, c1, c2, c3, c4, c5⟩ := hcell k c[k] (List.getElem?_eq_getElem hlt)
                have hpk : c[k]? = some c[k] := List.getElem?_eq_getElem hlt
                generalize c[k] = p at c3 c4 c5 hpk
                have HP : Hid _ := hpk
                clear hpk
                have d1 := (hblc.cell (p := ⟨g, k, none⟩) hgs).trans c1
                have hmk2 : ∀ w : World, (Instr.makeSlice 30 (.int .i64 1) (.int .i64 1)).run Trym.prog w = .ok (.slice (some ⟨w.heap.size, 0, none⟩) 1 1) (w.alloc (.cells (madeCells #[.slice none 0 0] 1) 26 (0, 0))) := fun w => run_make_row' (P := Trym.prog) 30 26 (.slice none 0 0) 24 Trym.underlying30 info26 rfl .i64 .i64 1 (by omega) (by omega) w
                go_wp2_with fail
                clear hmk2
                obtain ⟨wo, rfl⟩ : ∃ wo : World, wo = wr := ⟨_, rfl⟩
                go_loopw [14] (fun i wr => ∃ j : Nat, j ≤ 1 ∧ i = .int .i64 j ∧ FillP wr wo.heap.size 1 j [p] ∧ Below wo.heap.size wo wr) (fun i _ => 1 - (intOf i).toNat)
                case atStart => exact ⟨0, by omega, rfl, fillP_start [p], (Below.refl _ _).alloc (Nat.le_refl _) _⟩
                case round =>
                  obtain ⟨j, hj, rfl, hfp, hblp⟩ := hrel
                  have hblo : Below w1.heap.size w1 wr := hblc.trans (hblp.mono hblc.size)
                  by_cases hjl : j < 1
                  · obtain rfl : j = 0 := by omega
                    have d3 := (hblo.cell (p := ⟨K, 0, none⟩) c2).trans c3
                    go_wp2_with fail
                    refine (wordsOut17 pa pc p _ (c4.below hblo) c5).mono ?_
                    rintro e w2 ⟨a', rfl, hw2, hiff, hb2, hnew⟩
                    have hfp2 := hfp.below hb2
                    have g1 := hfp2.zero 0 (Nat.le_refl _) (by omega)
                    have g2 := hfp2.free 0
                    have HX : Hid _ := hfp2.step (pc := p.length) (p := p) hjl rfl hw2 (fun x hx => Nat.lt_of_lt_of_le hfp.size (hnew x hx))
                    clear d3
                    go_wp2_with fail
                    go_roundw
                    case rel => exact ⟨1, by omega, by go_num, HX.out, (hblp.trans (hb2.mono hblp.size)).setCell (Nat.le_refl _) _⟩
                    case measure => simp [intOf]
                  · obtain rfl : j = 1 := by omega
                    have hfc2 := hfc.below hblp
                    obtain ⟨v, g1⟩ := hfc2.old k hlt
                    have g2 := hfc2.free k
                    obtain ⟨pa2, pc2, e1, e2, e3⟩ := hfp.cell 0 p (by omega) rfl
                    have hos := hfc.size
                    have HX : Hid _ := hfc2.step hlt HP.out hos e1 e2 (fun x hx => by have := e3 x hx; omega)
                    clear e1
                    go_wp2_with fail
                    go_roundw
                    case rel => exact ⟨k + 1, hlt, by go_num, HX.out, hblo.setCell (Nat.le_refl _) _⟩
                    case measure => simp [intOf]; omega
              · obtain rfl : k = c.length := by omega
                have hcm := hfc.cmds
                rcases hd.shape with ⟨rfl, rfl⟩ | ⟨g2, cap2, rfl, hwd, hg2, _⟩
                · go_wp2_with fail
                  refine (wordsOut17 none 0 [] _ (wds_nil _ _) (by simp)).mono ?_
                  rintro e w2 ⟨a', rfl, hw2, hiff, hb2, _⟩
                  obtain rfl := hiff.mpr rfl
                  go_wp2_with fail
                  go_ret2
                  exact ⟨hblw.trans (hb2.mono hblw.size), .inr ⟨[], c, none, _, HS.out, rfl, hw2, hcm.below hb2, fun _ => rfl, fun h => absurd h hcne, hdl, hcl⟩⟩
                · go_wp2_with fail
                  refine (wordsOut17 _ cap2 d _ (hwd.below hblc) hdl).mono ?_
                  rintro e w2 ⟨a', rfl, hw2, hiff, hb2, _⟩
                  go_wp2_with fail
                  go_ret2
                  exact ⟨hblw.trans (hb2.mono hblw.size), .inr ⟨d, c, a', _, HS.out, rfl, hw2, hcm.below hb2, fun h => absurd (HD.out h) (by simp), fun h => absurd h hcne, hdl, hcl⟩⟩
end Go.Proofs.Qxb6602309aMods
