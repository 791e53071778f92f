import Derived.Test.Qxb6602309aModsWalkK
import Derived.Test.Qxb6602309aModsWalkA
import Derived.Deep.RegionWith
namespace Go.Proofs.Qxb6602309aMods
open Go.RowKit
set_option linter.unusedVariables false

theorem mem_flat_len : ∀ (ps : List (List Wd)) (p : List Wd), p ∈ ps → p.length ≤ (flat ps).length := fun ps p hp => by
  unfold flat
  have hp2 : p ∈ ps.reverse := List.mem_reverse.2 hp
  generalize ps.reverse = l at hp2
  induction l with
  | nil => cases hp2
  | cons q l ih =>
    rw [List.flatten_cons, List.length_append]
    rcases List.mem_cons.1 hp2 with rfl | h
    · omega
    · have := ih h; omega

theorem same_d {w : World} {dv : Value} {d : List Wd} {da : Option Addr} (hd : OwnW w 39 dv d) (hda : Wds w da d) (h1 : d = [] → dv = .slice none 0 0) (h2 : d = [] → da = none) :
    ∃ wa cap, dv = .slice wa d.length cap ∧ Wds w wa d ∧ wa.isNone = da.isNone := by
  rcases hd.shape with ⟨rfl, rfl⟩ | ⟨g, cap, rfl, hw, _⟩
  · exact ⟨none, 0, rfl, wds_nil _ _, by rw [h2 rfl]⟩
  · cases d with
    | nil => have := h1 rfl; cases this
    | cons x l =>
      obtain ⟨b, off, rfl, _⟩ := hda 0 x rfl
      exact ⟨_, cap, rfl, hw, rfl⟩

theorem same_c {w0 w : World} {cv : Value} {c : List (List Wd)} {ca : Option Addr} (hc : OwnC w0 w 32 cv c) (hb : Below w0.heap.size w0 w) (hca : Cmds w ca c) (h1 : c = [] → cv = .slice none 0 0) (h2 : c = [] → ca = none) :
    ∃ wa cap, cv = .slice wa c.length cap ∧ Pts w wa c ∧ wa.isNone = ca.isNone := by
  rcases hc.shape hb with ⟨rfl, rfl⟩ | ⟨g, cap, rfl, hw⟩
  · exact ⟨none, 0, rfl, fun i p hp => by simp at hp, by rw [h2 rfl]⟩
  · cases c with
    | nil => have := h1 rfl; cases this
    | cons x l =>
      obtain ⟨b, off, K, pa, pc, rfl, _⟩ := hca 0 x rfl
      exact ⟨_, cap, rfl, hw, rfl⟩

theorem Below.drew' {B : Nat} (w : World) : Below B w w.drew := ⟨rfl, rfl, rfl, Nat.le_refl _, fun _ _ => rfl⟩

theorem exec1_cmd : ∀ (l acc cmd r : List Wd), exec1 acc l = some (cmd, r) → cmd.length ≤ acc.length + l.length
  | [], acc, cmd, r, h => by simp [exec1] at h
  | x :: l, acc, cmd, r, h => by
    cases hs : stop acc x with
    | true =>
      rw [exec1_stop hs] at h
      simp only [Option.some.injEq, Prod.mk.injEq] at h
      rw [← h.1]; omega
    | false =>
      rw [exec1_go hs] at h
      have := exec1_cmd l _ cmd r h
      simp only [List.length_append, List.length_cons, List.length_nil] at this ⊢
      omega

theorem find_cmds (N n : Nat) : ∀ (l d : List Wd) (c : List (List Wd)) (d' : List Wd) (c' : List (List Wd)), l.length ≤ n → n ≤ N → (∀ p ∈ c, p.length ≤ N) → find l d c = some (d', c') → ∀ p ∈ c', p.length ≤ N := by
  have base : ∀ (d : List Wd) (c : List (List Wd)) (d' : List Wd) (c' : List (List Wd)), (∀ p ∈ c, p.length ≤ N) → find [] d c = some (d', c') → ∀ p ∈ c', p.length ≤ N := fun d c d' c' hc h p hp => by
    have h2 : find [] d c = some (d, c) := rfl
    rw [h2] at h
    simp only [Option.some.injEq, Prod.mk.injEq] at h
    rw [← h.2] at hp
    exact hc p hp
  induction n with
  | zero =>
    intro l d c d' c' hl _ hc h
    obtain rfl := List.eq_nil_of_length_eq_zero (Nat.le_zero.1 hl)
    exact base d c d' c' hc h
  | succ n ih =>
    intro l d c d' c' hl hn hc h
    cases l with
    | nil => exact base d c d' c' hc h
    | cons x m =>
      simp only [List.length_cons] at hl
      cases hd : isDel x with
      | true =>
        rw [find_del hd] at h
        exact ih m _ c d' c' (by omega) (by omega) hc h
      | false =>
        cases he : isExec x.v with
        | false =>
          rw [find_skip hd he] at h
          exact ih m _ c d' c' (by omega) (by omega) hc h
        | true =>
          cases hx : exec1 [] m with
          | none => rw [find_none hd he hx] at h; cases h
          | some cr =>
            obtain ⟨cmd, r⟩ := cr
            rw [find_exec hd he hx] at h
            have h1 := exec1_len m [] cmd r hx
            have h2 := exec1_cmd m [] cmd r hx
            simp only [List.length_nil] at h2
            refine ih r _ (c ++ [cmd]) d' c' (by omega) (by omega) (fun p hp => ?_) h
            rcases List.mem_append.1 hp with hp | hp
            · exact hc p hp
            · simp only [List.mem_cons, List.not_mem_nil, or_false] at hp
              subst hp; omega

theorem pair_eq {R : Option (List Wd × List (List Wd))} {d d2 : List Wd} {c c2 : List (List Wd)} (h : R = some (d, c)) (h2 : R = some (d2, c2)) : d2 = d ∧ c2 = c := by
  rw [h] at h2
  simp only [Option.some.injEq, Prod.mk.injEq] at h2
  exact ⟨h2.1.symm, h2.2.symm⟩

set_option maxRecDepth 100000 in
set_option maxHeartbeats 8000000 in
theorem top3 (a : Option Addr) (cap : Nat) (ps : List (List Wd)) (w : World) (h : Pts w a ps) (hnil : a = none → ps = []) (hl : ps.length ≤ 9223372036854775807) :
    Calls Trym.prog 3 #[.slice a ps.length cap] w fun e w' => e = .returned (.bool true) ∧ Below w.heap.size w w' := by
  have qd : ∀ (w : World) (a : Option Addr) (n c n' c' : Nat), (binOp .eql 26 (.slice a n c) (.slice none n' c')).run Trym.prog w = .ok (.bool a.isNone) w := fun w a n c n' c' => Lib.run_eql_slice_nil w _ _ a n c n' c' Trym.underlying26
  have qc : ∀ (w : World) (a : Option Addr) (n c n' c' : Nat), (binOp .eql 27 (.slice a n c) (.slice none n' c')).run Trym.prog w = .ok (.bool a.isNone) w := fun w a n c n' c' => Lib.run_eql_slice_nil w _ _ a n c n' c' Trym.underlying27
  have qw : ∀ (w : World) (a : Option Addr) (n c n' c' : Nat), (binOp .eql 32 (.slice a n c) (.slice none n' c')).run Trym.prog w = .ok (.bool a.isNone) w := fun w a n c n' c' => Lib.run_eql_slice_nil w _ _ a n c n' c' Trym.underlying32
  have qx : ∀ (w : World) (a : Option Addr) (n c n' c' : Nat), (binOp .eql 22 (.slice a n c) (.slice none n' c')).run Trym.prog w = .ok (.bool a.isNone) w := fun w a n c n' c' => Lib.run_eql_slice_nil w _ _ a n c n' c' Trym.underlying22
  go_enter Trym.func3, Trym.ntmps3
  go_wp2_with fail
  refine (bytes5 a cap ps _ h hl).mono ?_
  rintro e w1 ⟨⟨b, rfl⟩, rfl⟩
  cases b with
  | false =>
    go_wp2_with fail
    go_ret
    exact ⟨rfl, Below.refl _ _⟩
  | true =>
    go_wp2_with fail
    refine (findBytes6 a cap ps _ h hl).mono ?_
    rintro e w2 ⟨⟨n, rfl, hn⟩, nd, rfl⟩
    have hb2 : Below w1.heap.size w1 (w1.drewN nd) := ⟨rfl, rfl, rfl, Nat.le_refl _, fun _ _ => rfl⟩
    have HN : Hid _ := hn
    clear hn
    by_cases hbig : 1048576 < n
    · go_wp2_with fail
      go_ret
      exact ⟨rfl, hb2⟩
    obtain ⟨hl2, hfl⟩ := HN.out (by omega)
    clear HN
    have hp : ∀ p ∈ ps, p.length ≤ 1048576 := fun p hp => Nat.le_trans (mem_flat_len ps p hp) hfl
    obtain ⟨R, hR⟩ : ∃ R, find (flat ps) [] [] = R := ⟨_, rfl⟩
    have HR : Hid _ := hR
    clear hR
    go_wp2_with fail
    refine (clone7 a cap ps _ (h.below hb2) hnil hl2 hp).mono ?_
    rintro e w3 ⟨a3, rfl, h3, hi3, hb3⟩
    have hn3 : a3 = none → ps = [] := fun e => hnil (hi3.1 e)
    have hB3 : Below w1.heap.size w1 w3 := hb2.trans (hb3.mono hb2.size)
    clear hi3
    go_wp2_with fail
    refine (danger9 a3 ps.length ps _ h3 hn3 hl2 hp).mono ?_
    rintro e w4 ⟨a4, rfl, h4, hi4, hb4⟩
    have hn4 : a4 = none → ps = [] := fun e => hn3 (hi4.1 e)
    have hB4 : Below w1.heap.size w1 w4 := hB3.trans (hb4.mono hB3.size)
    clear hi4
    go_wp2_with fail
    refine (zz8 a4 ps.length ps _ h4 hn4 hl2 hp hfl R HR.out).mono ?_
    rintro e w5 ⟨hb5, hz⟩
    have hB5 : Below w1.heap.size w1 w5 := hB4.trans (hb5.mono hB4.size)
    have h5 : Pts w5 a3 ps := (h3.below hb4).below hb5
    rcases hz with ⟨hz, rfl⟩ | ⟨d, c, da, ca, hz, rfl, hda, hca, hd0, hc0, hdl, hcl⟩
    · have HZ : Hid _ := hz
      clear hz
      go_wp2_with fail
      refine (flatten11 a3 ps.length ps _ h5 hl2 hfl).mono ?_
      rintro e w6 ⟨a6, cap6, rfl, h6, hb6, hcap6, hcm6⟩
      have hB6 : Below w1.heap.size w1 w6 := hB5.trans (hb6.mono hB5.size)
      go_wp2_with fail
      refine (model10 a6 cap6 (flat ps) _ h6 hfl hcap6 hcm6 R HR.out).mono ?_
      rintro e w7 ⟨hb7, hm⟩
      have hB7 : Below w1.heap.size w1 w7 := hB6.trans (hb7.mono hB6.size)
      rcases hm with ⟨hm, rfl⟩ | ⟨d2, c2, dv, cv, hm, rfl, _⟩
      · clear hm
        go_wp2_with fail
        go_ret
        exact ⟨rfl, hB7⟩
      · exact absurd (HZ.out.symm.trans hm) (by simp)
    · have HZ : Hid _ := hz
      have HD0 : Hid _ := hd0
      have HC0 : Hid _ := hc0
      clear hz hd0 hc0
      go_wp2_with fail
      refine (flatten11 a3 ps.length ps _ h5 hl2 hfl).mono ?_
      rintro e w6 ⟨a6, cap6, rfl, h6, hb6, hcap6, hcm6⟩
      have hB6 : Below w1.heap.size w1 w6 := hB5.trans (hb6.mono hB5.size)
      go_wp2_with fail
      refine (model10 a6 cap6 (flat ps) _ h6 hfl hcap6 hcm6 R HR.out).mono ?_
      rintro e w7 ⟨hb7, hm⟩
      have hB7 : Below w1.heap.size w1 w7 := hB6.trans (hb7.mono hB6.size)
      rcases hm with ⟨hm, rfl⟩ | ⟨d2, c2, dv, cv, hm, rfl, hdv, hcv, hdn, hcn⟩
      · exact absurd (HZ.out.symm.trans hm) (by simp)
      · obtain ⟨rfl, rfl⟩ := pair_eq HZ.out hm
        have hda7 : Wds w7 da d2 := (hda.below hb6).below hb7
        have hca7 : Cmds w7 ca c2 := (hca.below hb6).below hb7
        obtain ⟨wa, wcap, rfl, hwa, hsd⟩ := same_d hdv hda7 hdn HD0.out
        obtain ⟨wca, wccap, rfl, hwca, hsc⟩ := same_c hcv hb7 hca7 hcn HC0.out
        have hcp : ∀ p ∈ c2, p.length ≤ 1048576 := find_cmds 1048576 (flat ps).length (flat ps) [] [] d2 c2 (Nat.le_refl _) hfl (fun p hp => by cases hp) (HR.out.trans hm)
        obtain ⟨bd, hbd⟩ : ∃ bd, da.isNone = bd := ⟨_, rfl⟩
        obtain ⟨bc, hbc⟩ : ∃ bc, ca.isNone = bc := ⟨_, rfl⟩
        rw [hbd] at hsd
        rw [hbc] at hsc
        clear hm hdn hcn hdv hcv hda hca HZ HD0 HC0 HR h6 h5 h4 h3 h hb2 hb3 hb4 hb5 hb6 hb7 hn3 hn4 hnil hcap6 hcm6 hbig
        go_wp2_with fail
        clear hbd hsd
        go_loopw [8] (fun i wr => ∃ k : Nat, k ≤ d2.length ∧ i = .int .i64 k ∧ Below w7.heap.size w7 wr) (fun i _ => d2.length - (intOf i).toNat)
        case atStart => exact ⟨0, by omega, rfl, Below.refl _ _⟩
        case round =>
          obtain ⟨k, hk, rfl, hbl⟩ := hrel
          by_cases hlt : k < d2.length
          · obtain ⟨b, off, rfl, hat1⟩ := hda7 k d2[k] (List.getElem?_eq_getElem hlt)
            obtain ⟨b2, off2, rfl, hat2⟩ := hwa k d2[k] (List.getElem?_eq_getElem hlt)
            have hat1 := hat1.keep (hbl.block b hat1.lt)
            have hat2 := hat2.keep (hbl.block b2 hat2.lt)
            generalize d2[k] = x at hat1 hat2
            have q0 : wr.drew.cell? _ = _ := hat1.c0
            have q1 : wr.drew.cell? _ = _ := hat1.c1
            have q2 : wr.drew.cell? _ = _ := hat1.c2
            have q3 : wr.drew.cell? _ = _ := hat1.c3
            have q4 : wr.drew.cell? _ = _ := hat1.c4
            have r0 : wr.drew.cell? _ = _ := hat2.c0
            have r1 : wr.drew.cell? _ = _ := hat2.c1
            have r2 : wr.drew.cell? _ = _ := hat2.c2
            have r3 : wr.drew.cell? _ = _ := hat2.c3
            have r4 : wr.drew.cell? _ = _ := hat2.c4
            go_wp2_with fail
            go_region_with (go_at_call 12; refine (same12 x _).mono ?_; rintro e w' ⟨rfl, hbn⟩)
            all_goals
              go_wp2_with fail
              go_roundw
              case rel => exact ⟨k + 1, hlt, by go_num, hbl.trans ((Below.drew' _).trans (hbn.mono hbl.size))⟩
              case measure => simp [intOf]; omega
          · have hBl : Below w1.heap.size w1 wr := hB7.trans (hbl.mono hB7.size)
            go_wp2_with fail
            clear hbc hsc
            go_loopw [9] (fun i wr => ∃ k : Nat, k ≤ c2.length ∧ i = .int .i64 k ∧ Below w7.heap.size w7 wr) (fun i _ => c2.length - (intOf i).toNat)
            case atStart => exact ⟨0, by omega, rfl, hbl⟩
            case round =>
              clear hbl
              obtain ⟨k, hk, rfl, hbl⟩ := hrel
              by_cases hlt : k < c2.length
              · obtain ⟨b, off, K, pa, pc, rfl, e1, e2, e3⟩ := hca7 k c2[k] (List.getElem?_eq_getElem hlt)
                obtain ⟨b2, off2, pa2, pc2, rfl, f1, f2⟩ := hwca k c2[k] (List.getElem?_eq_getElem hlt)
                have hpl := hcp c2[k] (List.getElem_mem hlt)
                generalize c2[k] = p at e1 e2 e3 f1 f2 hpl
                have hb1 := block_lt_of_cell e1
                have hb2 := block_lt_of_cell e2
                have hb3 := block_lt_of_cell f1
                have g1 := (hbl.cell (p := ⟨b, off + k, none⟩) hb1).trans e1
                have g2 := (hbl.cell (p := ⟨K, 0, none⟩) hb2).trans e2
                have g3 := (hbl.cell (p := ⟨b2, off2 + k, none⟩) hb3).trans f1
                clear e1 e2
                go_wp2_with fail
                clear g1 g2 g3
                obtain ⟨wo, rfl⟩ : ∃ wo : World, wo = wr := ⟨_, rfl⟩
                go_loopw [11] (fun i wr => ∃ j : Nat, j ≤ p.length ∧ i = .int .i64 j ∧ Below w7.heap.size w7 wr) (fun i _ => p.length - (intOf i).toNat)
                case atStart => exact ⟨0, by omega, rfl, hbl⟩
                case round =>
                  clear hbl
                  obtain ⟨j, hj, rfl, hbl⟩ := hrel
                  by_cases hjl : j < p.length
                  · obtain ⟨b4, off4, rfl, hat1⟩ := e3 j p[j] (List.getElem?_eq_getElem hjl)
                    obtain ⟨b5, off5, rfl, hat2⟩ := f2 j p[j] (List.getElem?_eq_getElem hjl)
                    have hat1 := hat1.keep (hbl.block b4 hat1.lt)
                    have hat2 := hat2.keep (hbl.block b5 hat2.lt)
                    generalize p[j] = x at hat1 hat2
                    have g3 : wr.drew.cell? _ = _ := (hbl.cell (p := ⟨b2, off2 + k, none⟩) hb3).trans f1
                    have q0 : wr.drew.cell? _ = _ := hat1.c0
                    have q1 : wr.drew.cell? _ = _ := hat1.c1
                    have q2 : wr.drew.cell? _ = _ := hat1.c2
                    have q3 : wr.drew.cell? _ = _ := hat1.c3
                    have q4 : wr.drew.cell? _ = _ := hat1.c4
                    have r0 : wr.drew.cell? _ = _ := hat2.c0
                    have r1 : wr.drew.cell? _ = _ := hat2.c1
                    have r2 : wr.drew.cell? _ = _ := hat2.c2
                    have r3 : wr.drew.cell? _ = _ := hat2.c3
                    have r4 : wr.drew.cell? _ = _ := hat2.c4
                    go_wp2_with fail
                    go_region_with (go_at_call 12; refine (same12 x _).mono ?_; rintro e w' ⟨rfl, hbn⟩)
                    all_goals
                      go_wp2_with fail
                      go_roundw
                      case rel => exact ⟨j + 1, hjl, by go_num, hbl.trans ((Below.drew' _).trans (hbn.mono hbl.size))⟩
                      case measure => simp [intOf]; omega
                  · go_wp2_with fail
                    go_roundw
                    case rel => exact ⟨k + 1, hlt, by go_num, hbl⟩
                    case measure => simp [intOf]; omega
              · have hBl : Below w1.heap.size w1 wr := hB7.trans (hbl.mono hB7.size)
                go_wp2_with fail
                go_ret
                exact ⟨rfl, hBl⟩
end Go.Proofs.Qxb6602309aMods
