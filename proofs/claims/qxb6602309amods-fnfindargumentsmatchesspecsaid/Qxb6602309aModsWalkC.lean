import Derived.Test.Qxb6602309aModsWalkB
namespace Go.Proofs.Qxb6602309aMods
open Go.RowKit
set_option linter.unusedVariables false

theorem info26 : (Trym.prog.info? 26).map (fun i => (i.zero, i.size, i.bytes)) = some (some (.slice none 0 0), 1, 24) := by kernel_rfl
theorem info38 : (Trym.prog.info? 38).map (fun i => (i.zero, i.size, i.bytes)) = some (some (.agg #[.string ByteArray.empty, .int .i64 0, .bool false, .string ByteArray.empty, .bool false]), 5, 56) := by kernel_rfl

set_option maxRecDepth 100000 in
set_option maxHeartbeats 2000000 in
theorem danger9 (a : Option Addr) (cap : Nat) (ps : List (List Wd)) (w : World) (h : Pts w a ps) (hnil : a = none → ps = []) (hl : ps.length ≤ 1048576) (hp : ∀ p ∈ ps, p.length ≤ 1048576) :
    Calls Trym.prog 9 #[.slice a ps.length cap] w fun e w' => ClonedP w a ps e w' := by
  have qn : ∀ (w : World) (a : Option Addr) (n c n' c' : Nat), (binOp .eql 22 (.slice a n c) (.slice none n' c')).run Trym.prog w = .ok (.bool a.isNone) w := fun w a n c n' c' => Lib.run_eql_slice_nil w _ _ a n c n' c' Trym.underlying22
  have qm : ∀ (w : World) (a : Option Addr) (n c n' c' : Nat), (binOp .eql 32 (.slice a n c) (.slice none n' c')).run Trym.prog w = .ok (.bool a.isNone) w := fun w a n c n' c' => Lib.run_eql_slice_nil w _ _ a n c n' c' Trym.underlying32
  cases a with
  | none =>
    obtain rfl := hnil rfl
    go_enter Trym.func9, Trym.ntmps9
    go_wp2
    go_ret
    exact ⟨none, rfl, h, Iff.rfl, Below.refl _ _⟩
  | some x =>
    have hmk := run_make_row' (P := Trym.prog) 30 26 (.slice none 0 0) 24 Trym.underlying30 info26 rfl .i64 .i64 ps.length (by omega) (by omega)
    go_enter Trym.func9, Trym.ntmps9
    go_wp2
    clear hmk
    go_loopw [4] (fun i wr => ∃ k : Nat, k ≤ ps.length ∧ i = .int .i64 k ∧ FillP wr w.heap.size ps.length k ps ∧ Below w.heap.size w wr) (fun i _ => ps.length - (intOf i).toNat)
    case atStart => exact ⟨0, by omega, rfl, fillP_start ps, (Below.refl _ _).alloc (Nat.le_refl _) _⟩
    case round =>
      obtain ⟨k, hk, rfl, hf, hbl⟩ := hrel
      by_cases hlt : k < ps.length
      · obtain ⟨b, off, pa, pc, hx, hc, hw⟩ := h k ps[k] (List.getElem?_eq_getElem hlt)
        obtain rfl : x = ⟨b, off, none⟩ := by simpa using hx
        have hb := block_lt_of_cell hc
        have hc2 := (hbl.cell (p := ⟨b, off + k, none⟩) hb).trans hc
        have hpk : ps[k]? = some ps[k] := List.getElem?_eq_getElem hlt
        have hpl := hp ps[k] (List.getElem_mem hlt)
        generalize ps[k] = p at hc2 hw hpk hpl
        have HP : Hid _ := hpk
        clear hpk hc hx
        cases pa with
        | none =>
          obtain rfl := nil_of_none hw
          go_wp2
          go_roundw
          case rel => exact ⟨k + 1, hlt, by go_num, hf.skip hlt HP.out, hbl⟩
          case measure => simp [intOf]; omega
        | some y =>
          have hmk := run_make5 26 38 Trym.underlying26 info38 p.length hpl
          go_wp2
          obtain ⟨wo, rfl⟩ : ∃ wo : World, wo = wr := ⟨_, rfl⟩
          clear hmk
          go_loopw [6] (fun i wr => ∃ j : Nat, j ≤ p.length ∧ i = .int .i64 j ∧ Fill5 wr wo.heap.size p.length j p ∧ Below wo.heap.size wo wr) (fun i _ => p.length - (intOf i).toNat)
          case atStart => exact ⟨0, by omega, rfl, fill5_start p (mk5_size _), (Below.refl _ _).alloc (Nat.le_refl _) _⟩
          case round =>
            obtain ⟨j, hj, rfl, hf5, hbl5⟩ := hrel
            have hbl6 : Below w.heap.size w wr := hbl.trans (hbl5.mono hbl.size)
            have hc3 : wr.cell? ⟨b, off + k, none⟩ = some (.slice (some y) p.length pc) := (hbl5.cell (p := ⟨b, off + k, none⟩) (Nat.lt_of_lt_of_le hb hbl.size)).trans hc2
            by_cases hjl : j < p.length
            · obtain ⟨b2, off2, hy, hat0⟩ := hw j p[j] (List.getElem?_eq_getElem hjl)
              obtain rfl : y = ⟨b2, off2, none⟩ := by simpa using hy
              have hat := hat0.keep (hbl6.block b2 hat0.lt)
              have hx : p[j]? = some p[j] := List.getElem?_eq_getElem hjl
              generalize p[j] = x at hat hx
              have HX : Hid (∀ o, Fill5 ((put5 wr wo.heap.size (j * 5) x).alloc o) wo.heap.size p.length (j + 1) p) := fun o => (hf5.step hjl hx).below ((Below.refl _ _).alloc (Nat.le_refl _) o)
              have hsz := hf5.size
              have hb2 := hat.lt
              have hb3 := block_lt_of_cell hc3
              have q0 := hat.c0
              have q1 := hat.c1
              have q2 := hat.c2
              have q3 := hat.c3
              have q4 := hat.c4
              obtain ⟨v0, o0⟩ := hf5.old (j * 5) (by omega)
              obtain ⟨v1, o1⟩ := hf5.old (j * 5 + 1) (by omega)
              obtain ⟨v2, o2⟩ := hf5.old (j * 5 + 2) (by omega)
              obtain ⟨v3, o3⟩ := hf5.old (j * 5 + 3) (by omega)
              obtain ⟨v4, o4⟩ := hf5.old (j * 5 + 4) (by omega)
              have z0 := hf5.free (j * 5)
              have z1 := hf5.free (j * 5 + 1)
              have z2 := hf5.free (j * 5 + 2)
              have z3 := hf5.free (j * 5 + 3)
              have z4 := hf5.free (j * 5 + 4)
              clear hx hy
              go_wp2
              go_roundw
              case rel => exact ⟨j + 1, hjl, by go_num, HX.out _, (put5_below hbl5 (Nat.le_refl _)).alloc (by rw [put5_size]; exact Nat.le_of_lt hsz) _⟩
              case measure => simp [intOf]; omega
            · obtain rfl : j = p.length := by omega
              have hfP := hf.below hbl5
              have g1 := hfP.zero k (Nat.le_refl _) hlt
              have g2 := hfP.free k
              have HS : Hid _ := hfP.step (pc := p.length) hlt HP.out hf5.wds (fun x hx => by simp only [Option.some.injEq] at hx; subst hx; exact hf.size)
              go_wp2
              go_roundw
              case rel => exact ⟨k + 1, hlt, by go_num, HS.out, hbl6.setCell (Nat.le_refl _) _⟩
              case measure => simp [intOf]; omega
      · obtain rfl : k = ps.length := by omega
        go_wp2
        go_ret
        exact ⟨_, rfl, hf.pts, by simp, hbl⟩
end Go.Proofs.Qxb6602309aMods
